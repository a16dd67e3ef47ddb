import JvmDerived
import JvmDerived.Pilot.@@N@@Statement
import JvmDerived.Pilot.@@N@@Code
set_option linter.unusedVariables false
set_option linter.unusedSimpArgs false
namespace Jvm.OwnW
open Jvm Jvm.ClassFile Sem Op Lib Jvm.Free Jvm.Stand Jvm.LawKit Jvm.RoadKit
/-! A small logic of walks of its own: a store L (what is known of single cells), one rule an instruction. -/
abbrev Ent : Type := Addr × Bool × (Cell → Prop)
abbrev Store : Type := List Ent
abbrev Lay : Type := List (String × String × String)
def FldC (Z : State) (C n d : String) (v : Value) (cell : Cell) : Prop := ∃ (cf : ClassId) (k : Class) (i : Nat) (f : Field), Z.fieldFound? C n d = some (cf, k, i, f) ∧ f.isStatic = false ∧ cell.vm ≠ .unknown ∧ cell.vm.isStatics = false ∧ Z.vm.assignable cell.cls cf = true ∧ cell.slots[f.slot]? = some v
def ExaC (Z : State) (C : String) (cell : Cell) : Prop := ∃ k : Class, Z.vm.findClass C = some cell.cls ∧ Z.vm.classes[cell.cls]? = some k ∧ cell.vm.isStatics = false ∧ (k.kind = .ordinary → cell.slots.size = k.instanceTypes.size)
/-- an object of exactly the class C, the fields of lay hold vs -/
def OB (Z : State) (C : String) (lay : Lay) (vs : List Value) (c : Cell) : Prop := ExaC Z C c ∧ ∀ (j : Nat) (f : String × String × String) (v : Value), lay[j]? = some f → vs[j]? = some v → FldC Z f.1 f.2.1 f.2.2 v c
/-- an array of ty that holds vs -/
def AR (Z : State) (ty : FieldType) (vs : List Value) (c : Cell) : Prop := Z.isArrayOf c ty ∧ c.vm ≠ .unknown ∧ c.slots.toList = vs ∧ vs.length < 2 ^ 31
/-- an array of references over the class C -/
def RA (Z : State) (C : String) (vs : List Value) (c : Cell) : Prop := AR Z (.object C) vs c ∧ Ovr Z c.cls C
def Inv (Z : State) (EL : List (String × Nat)) (vm : Vm) (h : Heap) (L : Store) : Prop :=
  Ext Z.heap h ∧ CHv Z EL vm h ∧ (∀ o ∈ L, ∃ c : Cell, h[o.1]? = some c ∧ o.2.2 c) ∧ (∀ o ∈ L, o.2.1 = true → Z.heap.size ≤ o.1 ∧ Safe Z EL vm h o.1) ∧ L.Pairwise (fun o o' => (o.2.1 = true ∨ o'.2.1 = true) → o.1 ≠ o'.1)
section Facts
variable {Z : State} {EL : List (String × Nat)} {vm vm' : Vm} {h h' : Heap} {L L' L0 : Store} {a b : Addr} {C n d : String} {v w : Value} {c c' : Cell} {P P' : Cell → Prop} {lay : Lay} {vs : List Value} {j sl : Nat} {ty : FieldType} {a0 : Array Value} {fl : Bool}
theorem fld_of (hc : h[a]? = some c) (F : FldC Z C n d v c) : Fld Z h a C n d v := by obtain ⟨cf, k, i, f, r⟩ := F; exact ⟨c, cf, k, i, f, hc, r⟩
theorem of_fld (hc : h[a]? = some c) (F : Fld Z h a C n d v) : FldC Z C n d v c := by
  obtain ⟨c1, cf, k, i, f, h1, r⟩ := F
  cases hc.symm.trans h1
  exact ⟨cf, k, i, f, r⟩
theorem exa_of (hc : h[a]? = some c) (F : ExaC Z C c) : Exa Z h a C := by obtain ⟨k, r⟩ := F; exact ⟨c, k, hc, r⟩
theorem of_exa (hc : h[a]? = some c) (F : Exa Z h a C) : ExaC Z C c := by
  obtain ⟨c1, k, h1, r⟩ := F
  cases hc.symm.trans h1
  exact ⟨k, r⟩
theorem OB.exa (F : OB Z C lay vs c) (hc : h[a]? = some c) : Exa Z h a C := exa_of hc F.1
theorem OB.fld {f : String × String × String} (F : OB Z C lay vs c) (hc : h[a]? = some c) (hj : lay[j]? = some f) (hv : vs[j]? = some v) : Fld Z h a f.1 f.2.1 f.2.2 v := fld_of hc (F.2 j f v hj hv)
theorem AR.arr (F : AR Z ty vs c) (hc : h[a]? = some c) : Arr Z h a c ty := ⟨hc, F.1, F.2.1⟩
theorem AR.size (F : AR Z ty vs c) : c.slots.size = vs.length := by rw [← F.2.2.1]; simp
theorem AR.get (F : AR Z ty vs c) (hv : vs[j]? = some v) : c.slots[j]? = some v := by rw [← F.2.2.1] at hv; simpa using hv
theorem AR.set (F : AR Z ty vs c) (j : Nat) (v : Value) : AR Z ty (vs.set j v) (c.setSlot j v) :=
  ⟨F.1, F.2.1, by rw [← F.2.2.1]; simp [Cell.setSlot], by rw [List.length_set]; exact F.2.2.2⟩
theorem Inv.at_ (I : Inv Z EL vm h L) (m : (a, fl, P) ∈ L) : ∃ c : Cell, h[a]? = some c ∧ P c := I.2.2.1 _ m
theorem Inv.perm (p : L.Perm L') (I : Inv Z EL vm h L) : Inv Z EL vm h L' :=
  ⟨I.1, I.2.1, fun o ho => I.2.2.1 o (p.symm.subset ho), fun o ho => I.2.2.2.1 o (p.symm.subset ho), (p.pairwise_iff (fun {x y} q r => (q r.symm).symm)).mp I.2.2.2.2⟩
theorem Inv.sub (p : L'.Sublist L) (I : Inv Z EL vm h L) : Inv Z EL vm h L' :=
  ⟨I.1, I.2.1, fun o ho => I.2.2.1 o (p.subset ho), fun o ho => I.2.2.2.1 o (p.subset ho), I.2.2.2.2.sublist p⟩
theorem Inv.weak (hP : ∀ c, P c → P' c) (I : Inv Z EL vm h ((a, fl, P) :: L)) : Inv Z EL vm h ((a, fl, P') :: L) := by
  obtain ⟨h1, h2, h3, h4, h5⟩ := I
  rw [List.pairwise_cons] at h5
  refine ⟨h1, h2, fun o ho => ?_, fun o ho => ?_, List.pairwise_cons.mpr ⟨fun o ho q => h5.1 o ho q, h5.2⟩⟩
  · rcases List.mem_cons.mp ho with rfl | ho
    · obtain ⟨c, e1, e2⟩ := h3 (a, fl, P) (List.mem_cons_self ..); exact ⟨c, e1, hP c e2⟩
    · exact h3 o (List.mem_cons_of_mem _ ho)
  · rcases List.mem_cons.mp ho with rfl | ho
    · exact h4 (a, fl, P) (List.mem_cons_self ..)
    · exact h4 o (List.mem_cons_of_mem _ ho)
theorem Inv.lt (I : Inv Z EL vm h L) {o : Ent} (m : o ∈ L) : o.1 < h.size := by obtain ⟨c, e, -⟩ := I.2.2.1 o m; exact (Array.getElem?_eq_some_iff.mp e).1
/-- a new cell -/
theorem Inv.new (I : Inv Z EL vm h L) (E : Ext h h') (hc : h'[h.size]? = some c) (hP : P c) : Inv Z EL vm h' ((h.size, true, P) :: L) := by
  have I0 := I
  obtain ⟨h1, h2, h3, h4, h5⟩ := I
  refine ⟨⟨Nat.le_trans h1.1 E.1, fun x c q => E.2 x c (h1.2 x c q)⟩, h2.ext E, fun o ho => ?_, fun o ho q => ?_, List.pairwise_cons.mpr ⟨fun o ho _ q => ?_, h5⟩⟩
  · rcases List.mem_cons.mp ho with rfl | ho
    · exact ⟨c, hc, hP⟩
    · obtain ⟨c1, e1, e2⟩ := h3 o ho; exact ⟨c1, E.2 _ _ e1, e2⟩
  · rcases List.mem_cons.mp ho with rfl | ho
    · exact ⟨h1.1, Safe.ext E h2 (Safe.new (Nat.le_refl _))⟩
    · exact ⟨(h4 o ho q).1, Safe.ext E h2 (h4 o ho q).2⟩
  · have := I0.lt ho
    exact absurd q (Nat.ne_of_gt this)
/-- a write to the first -/
theorem Inv.wr (I : Inv Z EL vm h ((a, true, P) :: L)) (W : Wr h h' a sl v) (hP : ∀ c, h[a]? = some c → P c → P' (c.setSlot sl v)) : Inv Z EL vm h' ((a, true, P') :: L) := by
  have I0 := I
  obtain ⟨h1, h2, h3, h4, h5⟩ := I
  have hs := (h4 _ (List.mem_cons_self ..) rfl)
  rw [List.pairwise_cons] at h5
  have W0 := W
  obtain ⟨cell, e1, e2, e3, rfl⟩ := W
  refine ⟨⟨by simpa using h1.1, fun x c q => ?_⟩, h2.wr W0 hs.2, fun o ho => ?_, fun o ho q => ?_, List.pairwise_cons.mpr ⟨fun o ho q => h5.1 o ho q, h5.2⟩⟩
  · have hx : x < Z.heap.size := (Array.getElem?_eq_some_iff.mp q).1
    have hne : a ≠ x := fun e => by have := hs.1; rw [e] at this; exact absurd hx (Nat.not_lt.mpr this)
    rw [Array.getElem?_setIfInBounds_ne hne]; exact h1.2 x c q
  · rcases List.mem_cons.mp ho with rfl | ho
    · obtain ⟨c1, q1, q2⟩ := h3 (a, true, P) (List.mem_cons_self ..)
      cases e1.symm.trans q1
      exact ⟨_, Array.getElem?_setIfInBounds_self_of_lt (Array.getElem?_eq_some_iff.mp e1).1, hP _ e1 q2⟩
    · obtain ⟨c1, q1, q2⟩ := h3 o (List.mem_cons_of_mem _ ho)
      have hne : a ≠ o.1 := h5.1 o ho (Or.inl rfl)
      exact ⟨c1, by rw [Array.getElem?_setIfInBounds_ne hne]; exact q1, q2⟩
  · rcases List.mem_cons.mp ho with rfl | ho
    · exact ⟨hs.1, Safe.wr W0 hs.2 h2 hs.2⟩
    · have q2 := h4 o (List.mem_cons_of_mem _ ho) q
      exact ⟨q2.1, Safe.wr W0 hs.2 h2 q2.2⟩
/-- the tables go on -/
theorem Inv.later (I : Inv Z EL vm h L) (E : Ext h h') (A : CHr Z EL vm h vm' h') : Inv Z EL vm' h' L := by
  have I0 := I
  obtain ⟨h1, h2, h3, h4, h5⟩ := I
  refine ⟨⟨Nat.le_trans h1.1 E.1, fun x c q => E.2 x c (h1.2 x c q)⟩, A.1, fun o ho => ?_, fun o ho q => ?_, h5⟩
  · obtain ⟨c1, e1, e2⟩ := h3 o ho; exact ⟨c1, E.2 _ _ e1, e2⟩
  · exact ⟨(h4 o ho q).1, A.safe (I0.lt ho) (h4 o ho q).2⟩
/-- a cell that isn't written -/
theorem Inv.old (I : Inv Z EL vm h L) (hc : h[a]? = some c) (hP : P c) (hne : ∀ x, Z.heap.size ≤ x → Safe Z EL vm h x → x ≠ a) : Inv Z EL vm h ((a, false, P) :: L) := by
  obtain ⟨h1, h2, h3, h4, h5⟩ := I
  refine ⟨h1, h2, fun o ho => ?_, fun o ho q => ?_, List.pairwise_cons.mpr ⟨fun o ho q r => ?_, h5⟩⟩
  · rcases List.mem_cons.mp ho with rfl | ho
    · exact ⟨c, hc, hP⟩
    · exact h3 o ho
  · rcases List.mem_cons.mp ho with rfl | ho
    · cases q
    · exact h4 o ho q
  · rcases q with q | q
    · cases q
    · exact hne o.1 (h4 o ho q).1 (h4 o ho q).2 r.symm
theorem Inv.ne {o o' : Ent} (I : Inv Z EL vm h L) {i j : Nat} (hi : L[i]? = some o) (hj : L[j]? = some o') (hij : i < j) (hf : o.2.1 = true ∨ o'.2.1 = true) : o.1 ≠ o'.1 := by
  obtain ⟨h1, e1⟩ := List.getElem?_eq_some_iff.mp hi
  obtain ⟨h2, e2⟩ := List.getElem?_eq_some_iff.mp hj
  have := List.pairwise_iff_getElem.mp I.2.2.2.2 i j h1 h2 hij
  rw [e1, e2] at this
  exact this hf
/-- the slots of a layout are unlike -/
def LayOk (Z : State) (a0 : Array Value) (C : String) (lay : Lay) : Prop := (∀ f ∈ lay, Laid Z a0 C f.1 f.2.1 f.2.2) ∧ (lay.map (·.2.1)).Nodup ∧ ∀ f ∈ lay, ∃ t, parseFieldDescriptor f.2.2 = some t
theorem LayOk.ne {f f' : String × String × String} {j' : Nat} (K : LayOk Z a0 C lay) (hj : lay[j]? = some f) (hj' : lay[j']? = some f') (hne : j ≠ j') : RoadKit.slotOf Z f.1 f.2.1 f.2.2 ≠ RoadKit.slotOf Z f'.1 f'.2.1 f'.2.2 := by
  have m1 := List.mem_of_getElem? hj
  have m2 := List.mem_of_getElem? hj'
  obtain ⟨t1, q1⟩ := K.2.2 f m1
  obtain ⟨t2, q2⟩ := K.2.2 f' m2
  refine slot_ne (K.1 f m1) (K.1 f' m2) (fun e => ?_) q1 q2
  have n1 : (lay.map (·.2.1))[j]? = some f.2.1 := by simp [hj]
  have n2 : (lay.map (·.2.1))[j']? = some f'.2.1 := by simp [hj']
  obtain ⟨l1, g1⟩ := List.getElem?_eq_some_iff.mp n1
  obtain ⟨l2, g2⟩ := List.getElem?_eq_some_iff.mp n2
  have := List.pairwise_iff_getElem.mp (show (lay.map (·.2.1)).Pairwise (· ≠ ·) from K.2.1)
  rcases Nat.lt_or_gt_of_ne hne with q | q
  · exact this j j' l1 l2 q (by rw [g1, g2]; exact e)
  · exact this j' j l2 l1 q (by rw [g1, g2]; exact e.symm)
theorem OB.set {f : String × String × String} (K : LayOk Z a0 C lay) (F : OB Z C lay vs c) (hj : lay[j]? = some f) (hv : vs[j]? = some w) (v : Value) : OB Z C lay (vs.set j v) (c.setSlot (RoadKit.slotOf Z f.1 f.2.1 f.2.2) v) := by
  obtain ⟨⟨k, x1, x2, x3, x4⟩, F2⟩ := F
  have Fj := F2 j f w hj hv
  obtain ⟨cf, kf, i, fi, y1, y2, y3, y4, y5, y6⟩ := Fj
  have es : RoadKit.slotOf Z f.1 f.2.1 f.2.2 = fi.slot := by simp [RoadKit.slotOf, y1]
  refine ⟨⟨k, x1, x2, x3, fun q => by rw [sz_set]; exact x4 q⟩, fun j' f' v' h1 h2 => ?_⟩
  by_cases e : j = j'
  · subst e
    cases hj.symm.trans h1
    have hlt : j < vs.length := (List.getElem?_eq_some_iff.mp hv).1
    have : v' = v := by rw [List.getElem?_set_self hlt] at h2; exact (Option.some.inj h2).symm
    subst this
    have hsl := (Array.getElem?_eq_some_iff.mp y6).1
    exact ⟨cf, kf, i, fi, y1, y2, y3, y4, y5, by rw [es]; simp [Cell.setSlot, hsl]⟩
  · rw [List.getElem?_set_ne e] at h2
    obtain ⟨cf', kf', i', fi', z1, z2, z3, z4, z5, z6⟩ := F2 j' f' v' h1 h2
    have es' : RoadKit.slotOf Z f'.1 f'.2.1 f'.2.2 = fi'.slot := by simp [RoadKit.slotOf, z1]
    have hne := K.ne hj h1 e
    rw [es, es'] at hne
    exact ⟨cf', kf', i', fi', z1, z2, z3, z4, z5, by rw [es]; simp only [Cell.setSlot]; rw [Array.getElem?_setIfInBounds_ne hne]; exact z6⟩
end Facts
/-- the store with the entry o taken out -/
def Ex (L : Store) (o : Ent) (L0 : Store) : Prop := L.Perm (o :: L0)
theorem Ex.here {o : Ent} {L : Store} : Ex (o :: L) o L := List.Perm.refl _
theorem Ex.there {o x : Ent} {L L0 : Store} (h : Ex L o L0) : Ex (x :: L) o (x :: L0) := (List.Perm.cons x h).trans (List.Perm.swap o x L0)
/-- a local is written over -/
def LS1 (k : Nat) (v : Value) (Ls Ls' : List Slot) : Prop := v.category = 1 → storeLocals ⟨Ls⟩ k v = some ⟨Ls'⟩ ∧ ∃ o, Ls[k]? = some o ∧ One o ∧ Ls' = Ls.set k (.val v)
theorem LS1.of {Ls : List Slot} {i : Nat} {v : Value} {o : Slot} (hold : Ls[i]? = some o) (ho : One o) : LS1 i v Ls (Ls.set i (.val v)) := fun hv => by
  have q := XS.store1 (l := ⟨Ls⟩) (i := i) (v := v) (o := o) (by simpa using hold) ho hv
  exact ⟨by simpa using q, o, hold, ho, rfl⟩
theorem LS1.here {v : Value} {o : Slot} {Ls : List Slot} (ho : One o) : LS1 0 v (o :: Ls) (.val v :: Ls) := LS1.of (Ls := o :: Ls) (i := 0) rfl ho
theorem LS1.there {k : Nat} {v : Value} {x : Slot} {Ls Ls' : List Slot} (h : LS1 k v Ls Ls') : LS1 (k + 1) v (x :: Ls) (x :: Ls') := fun hv => by
  obtain ⟨-, o, h1, h2, rfl⟩ := h hv
  exact LS1.of (Ls := x :: Ls) (i := k + 1) (by simpa using h1) h2 hv
def LS2 (k : Nat) (v : Int64) (Ls Ls' : List Slot) : Prop := ∃ (A B : List Slot) (o1 o2 : Slot), Ls = A ++ o1 :: o2 :: B ∧ A.length = k ∧ ((One o1 ∧ One o2) ∨ ∃ x, o1 = .val (.long x) ∧ o2 = .second) ∧ Ls' = A ++ .val (.long v) :: .second :: B
theorem LS2.here {v : Int64} {o1 o2 : Slot} {Ls : List Slot} (ho : (One o1 ∧ One o2) ∨ ∃ x, o1 = .val (.long x) ∧ o2 = .second) : LS2 0 v (o1 :: o2 :: Ls) (.val (.long v) :: .second :: Ls) := ⟨[], Ls, o1, o2, rfl, rfl, ho, rfl⟩
theorem LS2.there {k : Nat} {v : Int64} {x : Slot} {Ls Ls' : List Slot} (h : LS2 k v Ls Ls') : LS2 (k + 1) v (x :: Ls) (x :: Ls') := by
  obtain ⟨A, B, o1, o2, rfl, h2, h3, rfl⟩ := h
  exact ⟨x :: A, B, o1, o2, rfl, by simp [h2], h3, rfl⟩
theorem LS2.store {k : Nat} {v : Int64} {Ls Ls' : List Slot} (h : LS2 k v Ls Ls') : storeLocals ⟨Ls⟩ k (.long v) = some ⟨Ls'⟩ := by
  obtain ⟨A, B, o1, o2, rfl, rfl, h3, rfl⟩ := h
  have hv : (Value.long v).category = 2 := rfl
  rcases h3 with ⟨h1 | ⟨w1, h1, g1⟩, h2 | ⟨w2, h2, g2⟩⟩ | ⟨x, h1, h2⟩
  · subst h1 h2; simp [storeLocals, storeSelf, setAt, hv]
  · subst h1 h2; simp [storeLocals, storeSelf, setAt, hv, g2]
  · subst h1 h2; simp [storeLocals, storeSelf, setAt, hv, g1]
  · subst h1 h2; simp [storeLocals, storeSelf, setAt, hv, g1, g2]
  · have hx : (Value.long x).category = 2 := rfl
    subst h1 h2; simp [storeLocals, storeSelf, setAt, hv, hx]
/-- THE WALK: from pc with these locals and this stack, the store L, cb cells and sb slots yet to be made, the body comes to its return, and Q holds there -/
def Wk (l : Launch) (Z : State) (a0 : Array Value) (EL : List (String × Nat)) (y : MethodName) (bytes : ByteArray) (mx : Nat) (ret : Option FieldType) (R : Room) (Q : Option Value → Store → Prop) (L : Store) (cb sb pc : Nat) (Ls : List Slot) (St : List Value) : Prop :=
  ∀ (p : Program) (e : Env) (s : State) (m : MethodId) (args : Array Value) (below : List Frame) (meth : Method) (c : Code) (T : State) (vm0 : Vm) (k0 : Nat) (locs : List Loc) (cells slots : Nat),
    p.tables.exec = Jvm.exec → c.code = bytes → c.maxLocals = mx → meth.sig.returnType = ret → meth.locks = false → meth.name = y.name → vm0.findClass y.cls = some m.cls →
    Stand p l e R (s.setVm vm0) m args below meth c T locs cells slots → s.Since vm0 k0 → k0 ≤ T.heap.size → Z.Warmed39 vm0 → EW Z a0 EL → Inv Z EL vm0 T.heap L → Fr Z.heap.size locs → cells + cb ≤ R.cells → slots + sb ≤ R.slots →
    ∃ (fin : State) (v : Option Value) (Lc : List Loc) (L' : Store), Steps p.tables e below (T.setTop (mkF m pc ⟨Ls⟩ St)) fin ∧ fin.status = .running ∧ Ended fin below (.returned v) ∧ Q v L' ∧ Inv Z EL fin.vm fin.heap L' ∧ Fr Z.heap.size Lc ∧ ReturnedEndW s (.returned v) fin Lc R.cells R.slots
/-- THE CONTRACT of a body -/
def Ct (l : Launch) (Z : State) (EL : List (String × Nat)) (y : MethodName) (bytes : ByteArray) (mx : Nat) (ret : Option FieldType) (R : Room) (as' : Array Value) (L : Store) (Q : Option Value → Store → Prop) : Prop :=
  ∀ ws : List Jvm.Cond, MetFree l y (head1 (Jvm.Cond.code y bytes mx ret :: ws) R) (fun a U => a = as' ∧ Z.Warmed39 U.vm ∧ Inv Z EL U.vm U.heap L) (fun _ _ _ _ _ => True) (fun _ U o U' => ∃ v Lc L', o = .returned v ∧ Q v L' ∧ Inv Z EL U'.vm U'.heap L' ∧ Fr Z.heap.size Lc ∧ ReturnedEndW U o U' Lc R.cells R.slots)
theorem endMono {s t : State} {o : Outcome} {L : List Loc} {k n k' n' : Nat} (h : ReturnedEndW s o t L k n) (hk : k ≤ k') (hn : n ≤ n') : ReturnedEndW s o t L k' n' := ⟨h.1, h.2.1, h.2.2.1, h.2.2.2.mono hk hn⟩
section Rules
variable {l : Launch} {Z : State} {a0 : Array Value} {EL : List (String × Nat)} {y : MethodName} {bytes : ByteArray} {mx : Nat} {ret : Option FieldType} {R : Room} {Q Q' : Option Value → Store → Prop} {L L0 L' : Store} {cb sb pc q : Nat} {Ls Ls' : List Slot} {St rest : List Value}
theorem Wk.mono (k : Wk l Z a0 EL y bytes mx ret R Q L cb sb pc Ls St) {cb' sb' : Nat} (h1 : cb ≤ cb') (h2 : sb ≤ sb') : Wk l Z a0 EL y bytes mx ret R Q L cb' sb' pc Ls St := by
  intro p e s m args below meth c T vm0 k0 locs cells slots hx hby hmx hret hlk hnm hown X hS hk hZ hE hI hF hc hs
  exact k p e s m args below meth c T vm0 k0 locs cells slots hx hby hmx hret hlk hnm hown X hS hk hZ hE hI hF (Nat.le_trans (Nat.add_le_add_left h1 _) hc) (Nat.le_trans (Nat.add_le_add_left h2 _) hs)
theorem Wk.imp (hq : ∀ v L, Q v L → Q' v L) (k : Wk l Z a0 EL y bytes mx ret R Q L cb sb pc Ls St) : Wk l Z a0 EL y bytes mx ret R Q' L cb sb pc Ls St := by
  intro p e s m args below meth c T vm0 k0 locs cells slots hx hby hmx hret hlk hnm hown X hS hk hZ hE hI hF hc hs
  obtain ⟨fin, v, Lc, L', h1, h2, h3, h4, r⟩ := k p e s m args below meth c T vm0 k0 locs cells slots hx hby hmx hret hlk hnm hown X hS hk hZ hE hI hF hc hs
  exact ⟨fin, v, Lc, L', h1, h2, h3, hq _ _ h4, r⟩
theorem Wk.inv (hi : ∀ vm h, Inv Z EL vm h L → Inv Z EL vm h L') (k : Wk l Z a0 EL y bytes mx ret R Q L' cb sb pc Ls St) : Wk l Z a0 EL y bytes mx ret R Q L cb sb pc Ls St := by
  intro p e s m args below meth c T vm0 k0 locs cells slots hx hby hmx hret hlk hnm hown X hS hk hZ hE hI hF hc hs
  exact k p e s m args below meth c T vm0 k0 locs cells slots hx hby hmx hret hlk hnm hown X hS hk hZ hE (hi _ _ hI) hF hc hs
/-- the entry o comes to the front -/
theorem Wk.pull {o : Ent} (h : Ex L o L0) (k : Wk l Z a0 EL y bytes mx ret R Q (o :: L0) cb sb pc Ls St) : Wk l Z a0 EL y bytes mx ret R Q L cb sb pc Ls St := Wk.inv (fun _ _ I => I.perm h) k
theorem Wk.perm (h : L.Perm L') (k : Wk l Z a0 EL y bytes mx ret R Q L' cb sb pc Ls St) : Wk l Z a0 EL y bytes mx ret R Q L cb sb pc Ls St := Wk.inv (fun _ _ I => I.perm h) k
theorem Wk.sub (h : L'.Sublist L) (k : Wk l Z a0 EL y bytes mx ret R Q L' cb sb pc Ls St) : Wk l Z a0 EL y bytes mx ret R Q L cb sb pc Ls St := Wk.inv (fun _ _ I => I.sub h) k
theorem Wk.distinct {i j : Nat} {o o' : Ent} (hi : L[i]? = some o) (hj : L[j]? = some o') (hij : i < j) (hf : o.2.1 = true ∨ o'.2.1 = true) (k : o.1 ≠ o'.1 → Wk l Z a0 EL y bytes mx ret R Q L cb sb pc Ls St) : Wk l Z a0 EL y bytes mx ret R Q L cb sb pc Ls St := by
  intro p e s m args below meth c T vm0 k0 locs cells slots hx hby hmx hret hlk hnm hown X hS hk hZ hE hI hF hc hs
  exact k (hI.ne hi hj hij hf) p e s m args below meth c T vm0 k0 locs cells slots hx hby hmx hret hlk hnm hown X hS hk hZ hE hI hF hc hs
/-- an old object, known at the start -/
theorem Wk.old {a : Addr} {c0 : Cell} {P : Cell → Prop} (h0 : Z.heap[a]? = some c0) (hP : P c0) (k : Wk l Z a0 EL y bytes mx ret R Q ((a, false, P) :: L) cb sb pc Ls St) : Wk l Z a0 EL y bytes mx ret R Q L cb sb pc Ls St := by
  refine Wk.inv (fun vm h I => I.old (I.1.2 _ _ h0) hP fun x hx _ e => ?_) k
  subst e
  exact absurd (Array.getElem?_eq_some_iff.mp h0).1 (Nat.not_lt.mpr hx)
/-- one plain step -/
theorem Wk.pure {q : Nat} {Ls' : List Slot} {St' : List Value} (st : ∀ {p : Program} {e : Env} {below : List Frame} {T : State} {m : MethodId} {c : Code} {target : State}, At T m c below → p.tables.exec = Jvm.exec → c.code = bytes → Steps p.tables e below (T.setTop (mkF m q ⟨Ls'⟩ St')) target → Steps p.tables e below (T.setTop (mkF m pc ⟨Ls⟩ St)) target)
    (k : Wk l Z a0 EL y bytes mx ret R Q L cb sb q Ls' St') : Wk l Z a0 EL y bytes mx ret R Q L cb sb pc Ls St := by
  intro p e s m args below meth c T vm0 k0 locs cells slots hx hby hmx hret hlk hnm hown X hS hk hZ hE hI hF hc hs
  obtain ⟨fin, v, Lc, L', h1, r⟩ := k p e s m args below meth c T vm0 k0 locs cells slots hx hby hmx hret hlk hnm hown X hS hk hZ hE hI hF hc hs
  exact ⟨fin, v, Lc, L', st X.here hx hby h1, r⟩
theorem getL {k : Nat} {o : Slot} (h : Ls[k]? = some o) : (⟨Ls⟩ : Array Slot)[k]? = some o := by simpa using h
theorem Wk.iload_n {i : Fin 4} {u : Int32} (hd : decode bytes pc = .ok (.iload_n i, 1)) (hq : pc + 1 = q) (hl : Ls[i.val]? = some (.val (.int u))) (k : Wk l Z a0 EL y bytes mx ret R Q L cb sb q Ls (.int u :: St)) : Wk l Z a0 EL y bytes mx ret R Q L cb sb pc Ls (St) := by
  subst hq; exact Wk.pure (fun X hx hby r => XS.iloadN X hx rfl (hb hby hd) (getL hl) r) k
theorem Wk.iload {i : Nat} {u : Int32} (hd : decode bytes pc = .ok (.iload i, 2)) (hq : pc + 2 = q) (hl : Ls[i]? = some (.val (.int u))) (k : Wk l Z a0 EL y bytes mx ret R Q L cb sb q Ls (.int u :: St)) : Wk l Z a0 EL y bytes mx ret R Q L cb sb pc Ls (St) := by
  subst hq; exact Wk.pure (fun X hx hby r => XS.iload X hx rfl (hb hby hd) (getL hl) r) k
theorem Wk.aload_n {i : Fin 4} {u : Value} (hd : decode bytes pc = .ok (.aload_n i, 1)) (hq : pc + 1 = q) (hl : Ls[i.val]? = some (.val u)) (hr : u.isRef = true) (k : Wk l Z a0 EL y bytes mx ret R Q L cb sb q Ls (u :: St)) : Wk l Z a0 EL y bytes mx ret R Q L cb sb pc Ls (St) := by
  subst hq; exact Wk.pure (fun X hx hby r => XS.aloadN X hx rfl (hb hby hd) (getL hl) hr r) k
theorem Wk.aload {i : Nat} {u : Value} (hd : decode bytes pc = .ok (.aload i, 2)) (hq : pc + 2 = q) (hl : Ls[i]? = some (.val u)) (hr : u.isRef = true) (k : Wk l Z a0 EL y bytes mx ret R Q L cb sb q Ls (u :: St)) : Wk l Z a0 EL y bytes mx ret R Q L cb sb pc Ls (St) := by
  subst hq; exact Wk.pure (fun X hx hby r => XS.aload X hx rfl (hb hby hd) (getL hl) hr r) k
theorem Wk.lload_n {i : Fin 4} {u : Int64} (hd : decode bytes pc = .ok (.lload_n i, 1)) (hq : pc + 1 = q) (hl : Ls[i.val]? = some (.val (.long u))) (k : Wk l Z a0 EL y bytes mx ret R Q L cb sb q Ls (.long u :: St)) : Wk l Z a0 EL y bytes mx ret R Q L cb sb pc Ls (St) := by
  subst hq; exact Wk.pure (fun X hx hby r => XT.lloadN X hx rfl (hb hby hd) (getL hl) r) k
theorem Wk.lload {i : Nat} {u : Int64} (hd : decode bytes pc = .ok (.lload i, 2)) (hq : pc + 2 = q) (hl : Ls[i]? = some (.val (.long u))) (k : Wk l Z a0 EL y bytes mx ret R Q L cb sb q Ls (.long u :: St)) : Wk l Z a0 EL y bytes mx ret R Q L cb sb pc Ls (St) := by
  subst hq; exact Wk.pure (fun X hx hby r => XT.lload X hx rfl (hb hby hd) (getL hl) r) k
theorem Wk.istore_n {i : Fin 4} {u : Int32} (hd : decode bytes pc = .ok (.istore_n i, 1)) (hq : pc + 1 = q) (hl : LS1 i.val (.int u) Ls Ls') (k : Wk l Z a0 EL y bytes mx ret R Q L cb sb q Ls' (St)) : Wk l Z a0 EL y bytes mx ret R Q L cb sb pc Ls (.int u :: St) := by
  subst hq; exact Wk.pure (fun X hx hby r => XS.istoreN X hx rfl (hb hby hd) rfl (hl rfl).1 r) k
theorem Wk.istore {i : Nat} {u : Int32} (hd : decode bytes pc = .ok (.istore i, 2)) (hq : pc + 2 = q) (hl : LS1 i (.int u) Ls Ls') (k : Wk l Z a0 EL y bytes mx ret R Q L cb sb q Ls' (St)) : Wk l Z a0 EL y bytes mx ret R Q L cb sb pc Ls (.int u :: St) := by
  subst hq; exact Wk.pure (fun X hx hby r => XS.istore X hx rfl (hb hby hd) rfl (hl rfl).1 r) k
theorem Wk.astore_n {i : Fin 4} {u : Value} (hd : decode bytes pc = .ok (.astore_n i, 1)) (hq : pc + 1 = q) (hr : u.isRef = true) (hl : LS1 i.val u Ls Ls') (k : Wk l Z a0 EL y bytes mx ret R Q L cb sb q Ls' (St)) : Wk l Z a0 EL y bytes mx ret R Q L cb sb pc Ls (u :: St) := by
  subst hq; exact Wk.pure (fun X hx hby r => XS.astoreN X hx rfl (hb hby hd) rfl hr (hl (XT.cat1 hr)).1 r) k
theorem Wk.astore {i : Nat} {u : Value} (hd : decode bytes pc = .ok (.astore i, 2)) (hq : pc + 2 = q) (hr : u.isRef = true) (hl : LS1 i u Ls Ls') (k : Wk l Z a0 EL y bytes mx ret R Q L cb sb q Ls' (St)) : Wk l Z a0 EL y bytes mx ret R Q L cb sb pc Ls (u :: St) := by
  subst hq; exact Wk.pure (fun X hx hby r => XS.astore X hx rfl (hb hby hd) rfl hr (hl (XT.cat1 hr)).1 r) k
theorem Wk.lstore_n {i : Fin 4} {u : Int64} (hd : decode bytes pc = .ok (.lstore_n i, 1)) (hq : pc + 1 = q) (hl : LS2 i.val u Ls Ls') (k : Wk l Z a0 EL y bytes mx ret R Q L cb sb q Ls' (St)) : Wk l Z a0 EL y bytes mx ret R Q L cb sb pc Ls (.long u :: St) := by
  subst hq; exact Wk.pure (fun X hx hby r => XT.lstoreN X hx rfl (hb hby hd) rfl hl.store r) k
theorem Wk.lstore {i : Nat} {u : Int64} (hd : decode bytes pc = .ok (.lstore i, 2)) (hq : pc + 2 = q) (hl : LS2 i u Ls Ls') (k : Wk l Z a0 EL y bytes mx ret R Q L cb sb q Ls' (St)) : Wk l Z a0 EL y bytes mx ret R Q L cb sb pc Ls (.long u :: St) := by
  subst hq; exact Wk.pure (fun X hx hby r => XT.lstore X hx rfl (hb hby hd) rfl hl.store r) k
theorem Wk.iconst {i : Int} (u : Int32) (hd : decode bytes pc = .ok (.iconst i, 1)) (hq : pc + 1 = q) (hu : Int32.ofInt i = u) (k : Wk l Z a0 EL y bytes mx ret R Q L cb sb q Ls (.int u :: St)) : Wk l Z a0 EL y bytes mx ret R Q L cb sb pc Ls (St) := by
  subst hq; exact Wk.pure (fun X hx hby r => XS.iconst X hx rfl (hb hby hd) (by rw [hu]; exact r)) k
theorem Wk.bipush {i : Int} (u : Int32) (hd : decode bytes pc = .ok (.bipush i, 2)) (hq : pc + 2 = q) (hu : (Int8.ofInt i).toInt32 = u) (k : Wk l Z a0 EL y bytes mx ret R Q L cb sb q Ls (.int u :: St)) : Wk l Z a0 EL y bytes mx ret R Q L cb sb pc Ls (St) := by
  subst hq; exact Wk.pure (fun X hx hby r => XS.bipush X hx rfl (hb hby hd) (by rw [hu]; exact r)) k
theorem Wk.sipush {i : Int} (u : Int32) (hd : decode bytes pc = .ok (.sipush i, 3)) (hq : pc + 3 = q) (hu : (Int16.ofInt i).toInt32 = u) (k : Wk l Z a0 EL y bytes mx ret R Q L cb sb q Ls (.int u :: St)) : Wk l Z a0 EL y bytes mx ret R Q L cb sb pc Ls (St) := by
  subst hq; exact Wk.pure (fun X hx hby r => XS.sipush X hx rfl (hb hby hd) (by rw [hu]; exact r)) k
theorem Wk.lconst {i : Fin 2} (u : Int64) (hd : decode bytes pc = .ok (.lconst i, 1)) (hq : pc + 1 = q) (hu : Int64.ofNat i = u) (k : Wk l Z a0 EL y bytes mx ret R Q L cb sb q Ls (.long u :: St)) : Wk l Z a0 EL y bytes mx ret R Q L cb sb pc Ls (St) := by
  subst hq; exact Wk.pure (fun X hx hby r => XT.lconst X hx rfl (hb hby hd) (by rw [hu]; exact r)) k
theorem Wk.aconst_null  (hd : decode bytes pc = .ok (.aconst_null, 1)) (hq : pc + 1 = q) (k : Wk l Z a0 EL y bytes mx ret R Q L cb sb q Ls (.null :: St)) : Wk l Z a0 EL y bytes mx ret R Q L cb sb pc Ls (St) := by
  subst hq; exact Wk.pure (fun X hx hby r => XS.aconstNull X hx rfl (hb hby hd)  r) k
theorem Wk.iadd {u w : Int32} (hd : decode bytes pc = .ok (.iadd, 1)) (hq : pc + 1 = q) (k : Wk l Z a0 EL y bytes mx ret R Q L cb sb q Ls (.int (u + w) :: St)) : Wk l Z a0 EL y bytes mx ret R Q L cb sb pc Ls (.int w :: .int u :: St) := by
  subst hq; exact Wk.pure (fun X hx hby r => XS.iadd X hx rfl (hb hby hd) rfl r) k
theorem Wk.isub {u w : Int32} (hd : decode bytes pc = .ok (.isub, 1)) (hq : pc + 1 = q) (k : Wk l Z a0 EL y bytes mx ret R Q L cb sb q Ls (.int (u - w) :: St)) : Wk l Z a0 EL y bytes mx ret R Q L cb sb pc Ls (.int w :: .int u :: St) := by
  subst hq; exact Wk.pure (fun X hx hby r => XS.isub X hx rfl (hb hby hd) rfl r) k
theorem Wk.imul {u w : Int32} (hd : decode bytes pc = .ok (.imul, 1)) (hq : pc + 1 = q) (k : Wk l Z a0 EL y bytes mx ret R Q L cb sb q Ls (.int (u * w) :: St)) : Wk l Z a0 EL y bytes mx ret R Q L cb sb pc Ls (.int w :: .int u :: St) := by
  subst hq; exact Wk.pure (fun X hx hby r => XS.imul X hx rfl (hb hby hd) rfl r) k
theorem Wk.iand {u w : Int32} (hd : decode bytes pc = .ok (.iand, 1)) (hq : pc + 1 = q) (k : Wk l Z a0 EL y bytes mx ret R Q L cb sb q Ls (.int (u &&& w) :: St)) : Wk l Z a0 EL y bytes mx ret R Q L cb sb pc Ls (.int w :: .int u :: St) := by
  subst hq; exact Wk.pure (fun X hx hby r => XS.iand X hx rfl (hb hby hd) rfl r) k
theorem Wk.irem {u w : Int32} (hd : decode bytes pc = .ok (.irem, 1)) (hq : pc + 1 = q) (hy : w ≠ 0) (k : Wk l Z a0 EL y bytes mx ret R Q L cb sb q Ls (.int (u % w) :: St)) : Wk l Z a0 EL y bytes mx ret R Q L cb sb pc Ls (.int w :: .int u :: St) := by
  subst hq; exact Wk.pure (fun X hx hby r => XS.irem X hx rfl (hb hby hd) rfl hy (by rw [show u - u / w * w = u % w from irem_eq_mod u w]; exact r)) k
theorem Wk.idiv {u w : Int32} (hd : decode bytes pc = .ok (.idiv, 1)) (hq : pc + 1 = q) (hy : w ≠ 0) (k : Wk l Z a0 EL y bytes mx ret R Q L cb sb q Ls (.int (u / w) :: St)) : Wk l Z a0 EL y bytes mx ret R Q L cb sb pc Ls (.int w :: .int u :: St) := by
  subst hq; exact Wk.pure (fun X hx hby r => XS.idiv X hx rfl (hb hby hd) rfl hy r) k
theorem Wk.ineg {u : Int32} (hd : decode bytes pc = .ok (.ineg, 1)) (hq : pc + 1 = q) (k : Wk l Z a0 EL y bytes mx ret R Q L cb sb q Ls (.int (-u) :: St)) : Wk l Z a0 EL y bytes mx ret R Q L cb sb pc Ls (.int u :: St) := by
  subst hq; exact Wk.pure (fun X hx hby r => XS.ineg X hx rfl (hb hby hd) rfl r) k
theorem Wk.ior {u w : Int32} (hd : decode bytes pc = .ok (.ior, 1)) (hq : pc + 1 = q) (k : Wk l Z a0 EL y bytes mx ret R Q L cb sb q Ls (.int (u ||| w) :: St)) : Wk l Z a0 EL y bytes mx ret R Q L cb sb pc Ls (.int w :: .int u :: St) := by
  subst hq; exact Wk.pure (fun X hx hby r => XT.ior X hx rfl (hb hby hd) rfl r) k
theorem Wk.ixor {u w : Int32} (hd : decode bytes pc = .ok (.ixor, 1)) (hq : pc + 1 = q) (k : Wk l Z a0 EL y bytes mx ret R Q L cb sb q Ls (.int (u ^^^ w) :: St)) : Wk l Z a0 EL y bytes mx ret R Q L cb sb pc Ls (.int w :: .int u :: St) := by
  subst hq; exact Wk.pure (fun X hx hby r => XT.ixor X hx rfl (hb hby hd) rfl r) k
theorem Wk.ishl {u w : Int32} (hd : decode bytes pc = .ok (.ishl, 1)) (hq : pc + 1 = q) (k : Wk l Z a0 EL y bytes mx ret R Q L cb sb q Ls (.int (u <<< (w &&& 31)) :: St)) : Wk l Z a0 EL y bytes mx ret R Q L cb sb pc Ls (.int w :: .int u :: St) := by
  subst hq; exact Wk.pure (fun X hx hby r => XT.ishl X hx rfl (hb hby hd) rfl r) k
theorem Wk.ishr {u w : Int32} (hd : decode bytes pc = .ok (.ishr, 1)) (hq : pc + 1 = q) (k : Wk l Z a0 EL y bytes mx ret R Q L cb sb q Ls (.int (u >>> (w &&& 31)) :: St)) : Wk l Z a0 EL y bytes mx ret R Q L cb sb pc Ls (.int w :: .int u :: St) := by
  subst hq; exact Wk.pure (fun X hx hby r => XT.ishr X hx rfl (hb hby hd) rfl r) k
theorem Wk.iushr {u w : Int32} (hd : decode bytes pc = .ok (.iushr, 1)) (hq : pc + 1 = q) (k : Wk l Z a0 EL y bytes mx ret R Q L cb sb q Ls (.int (XT.ushr u w) :: St)) : Wk l Z a0 EL y bytes mx ret R Q L cb sb pc Ls (.int w :: .int u :: St) := by
  subst hq; exact Wk.pure (fun X hx hby r => XT.iushr X hx rfl (hb hby hd) rfl r) k
theorem Wk.ladd {u w : Int64} (hd : decode bytes pc = .ok (.ladd, 1)) (hq : pc + 1 = q) (k : Wk l Z a0 EL y bytes mx ret R Q L cb sb q Ls (.long (u + w) :: St)) : Wk l Z a0 EL y bytes mx ret R Q L cb sb pc Ls (.long w :: .long u :: St) := by
  subst hq; exact Wk.pure (fun X hx hby r => XT.ladd X hx rfl (hb hby hd) rfl r) k
theorem Wk.lsub {u w : Int64} (hd : decode bytes pc = .ok (.lsub, 1)) (hq : pc + 1 = q) (k : Wk l Z a0 EL y bytes mx ret R Q L cb sb q Ls (.long (u - w) :: St)) : Wk l Z a0 EL y bytes mx ret R Q L cb sb pc Ls (.long w :: .long u :: St) := by
  subst hq; exact Wk.pure (fun X hx hby r => XT.lsub X hx rfl (hb hby hd) rfl r) k
theorem Wk.lmul {u w : Int64} (hd : decode bytes pc = .ok (.lmul, 1)) (hq : pc + 1 = q) (k : Wk l Z a0 EL y bytes mx ret R Q L cb sb q Ls (.long (u * w) :: St)) : Wk l Z a0 EL y bytes mx ret R Q L cb sb pc Ls (.long w :: .long u :: St) := by
  subst hq; exact Wk.pure (fun X hx hby r => XT.lmul X hx rfl (hb hby hd) rfl r) k
theorem Wk.land {u w : Int64} (hd : decode bytes pc = .ok (.land, 1)) (hq : pc + 1 = q) (k : Wk l Z a0 EL y bytes mx ret R Q L cb sb q Ls (.long (u &&& w) :: St)) : Wk l Z a0 EL y bytes mx ret R Q L cb sb pc Ls (.long w :: .long u :: St) := by
  subst hq; exact Wk.pure (fun X hx hby r => XT.land X hx rfl (hb hby hd) rfl r) k
theorem Wk.ldiv {u w : Int64} (hd : decode bytes pc = .ok (.ldiv, 1)) (hq : pc + 1 = q) (hy : w ≠ 0) (k : Wk l Z a0 EL y bytes mx ret R Q L cb sb q Ls (.long (u / w) :: St)) : Wk l Z a0 EL y bytes mx ret R Q L cb sb pc Ls (.long w :: .long u :: St) := by
  subst hq; exact Wk.pure (fun X hx hby r => XT.ldiv X hx rfl (hb hby hd) rfl hy r) k
theorem Wk.lrem {u w : Int64} (hd : decode bytes pc = .ok (.lrem, 1)) (hq : pc + 1 = q) (hy : w ≠ 0) (k : Wk l Z a0 EL y bytes mx ret R Q L cb sb q Ls (.long (u % w) :: St)) : Wk l Z a0 EL y bytes mx ret R Q L cb sb pc Ls (.long w :: .long u :: St) := by
  subst hq; exact Wk.pure (fun X hx hby r => XT.lrem X hx rfl (hb hby hd) rfl hy (by rw [show u - u / w * w = u % w from lrem_mod u w]; exact r)) k
theorem Wk.i2l {u : Int32} (hd : decode bytes pc = .ok (.i2l, 1)) (hq : pc + 1 = q) (k : Wk l Z a0 EL y bytes mx ret R Q L cb sb q Ls (.long u.toInt64 :: St)) : Wk l Z a0 EL y bytes mx ret R Q L cb sb pc Ls (.int u :: St) := by
  subst hq; exact Wk.pure (fun X hx hby r => XT.i2l X hx rfl (hb hby hd) rfl r) k
theorem Wk.l2i {u : Int64} (hd : decode bytes pc = .ok (.l2i, 1)) (hq : pc + 1 = q) (k : Wk l Z a0 EL y bytes mx ret R Q L cb sb q Ls (.int u.toInt32 :: St)) : Wk l Z a0 EL y bytes mx ret R Q L cb sb pc Ls (.long u :: St) := by
  subst hq; exact Wk.pure (fun X hx hby r => XT.l2i X hx rfl (hb hby hd) rfl r) k
theorem Wk.i2b {u : Int32} (hd : decode bytes pc = .ok (.i2b, 1)) (hq : pc + 1 = q) (k : Wk l Z a0 EL y bytes mx ret R Q L cb sb q Ls (.int u.toInt8.toInt32 :: St)) : Wk l Z a0 EL y bytes mx ret R Q L cb sb pc Ls (.int u :: St) := by
  subst hq; exact Wk.pure (fun X hx hby r => XT.i2b X hx rfl (hb hby hd) rfl r) k
theorem Wk.i2c {u : Int32} (hd : decode bytes pc = .ok (.i2c, 1)) (hq : pc + 1 = q) (k : Wk l Z a0 EL y bytes mx ret R Q L cb sb q Ls (.int u.toUInt32.toUInt16.toUInt32.toInt32 :: St)) : Wk l Z a0 EL y bytes mx ret R Q L cb sb pc Ls (.int u :: St) := by
  subst hq; exact Wk.pure (fun X hx hby r => XT.i2c X hx rfl (hb hby hd) rfl r) k
theorem Wk.lcmp {u w : Int64} (hd : decode bytes pc = .ok (.lcmp, 1)) (hq : pc + 1 = q) (k : Wk l Z a0 EL y bytes mx ret R Q L cb sb q Ls (.int (XT.cmpL u w) :: St)) : Wk l Z a0 EL y bytes mx ret R Q L cb sb pc Ls (.long w :: .long u :: St) := by
  subst hq; exact Wk.pure (fun X hx hby r => XT.lcmp X hx rfl (hb hby hd) rfl r) k
theorem Wk.dup {u : Value} (hd : decode bytes pc = .ok (.dup, 1)) (hq : pc + 1 = q) (hc : u.category = 1) (k : Wk l Z a0 EL y bytes mx ret R Q L cb sb q Ls (u :: u :: St)) : Wk l Z a0 EL y bytes mx ret R Q L cb sb pc Ls (u :: St) := by
  subst hq; exact Wk.pure (fun X hx hby r => XS.dup X hx rfl (hb hby hd) rfl hc r) k
theorem Wk.pop {u : Value} (hd : decode bytes pc = .ok (.pop, 1)) (hq : pc + 1 = q) (hc : u.category = 1) (k : Wk l Z a0 EL y bytes mx ret R Q L cb sb q Ls (St)) : Wk l Z a0 EL y bytes mx ret R Q L cb sb pc Ls (u :: St) := by
  subst hq; exact Wk.pure (fun X hx hby r => XT.pop X hx rfl (hb hby hd) rfl hc r) k
theorem Wk.dup_x1 {u w : Value} (hd : decode bytes pc = .ok (.dup_x1, 1)) (hq : pc + 1 = q) (hc : u.category = 1) (hc' : w.category = 1) (k : Wk l Z a0 EL y bytes mx ret R Q L cb sb q Ls (u :: w :: u :: St)) : Wk l Z a0 EL y bytes mx ret R Q L cb sb pc Ls (u :: w :: St) := by
  subst hq; exact Wk.pure (fun X hx hby r => XT.dupX1 X hx rfl (hb hby hd) rfl hc hc' r) k
theorem Wk.iinc {i : Nat} {cst : Int} {u : Int32} (w : Int32) (hd : decode bytes pc = .ok (.iinc i cst, 3)) (hq : pc + 3 = q) (hu : Int32.ofInt cst = w) (hl : Ls[i]? = some (.val (.int u))) (hl' : LS1 i (.int (u + w)) Ls Ls') (k : Wk l Z a0 EL y bytes mx ret R Q L cb sb q Ls' (St)) : Wk l Z a0 EL y bytes mx ret R Q L cb sb pc Ls (St) := by
  subst hq; exact Wk.pure (fun X hx hby r => XS.iinc X hx rfl (hb hby hd) (getL hl) (by rw [hu]; exact (hl' rfl).1) r) k
theorem Wk.goto  {o : Int} (hd : decode bytes pc = .ok (.goto o, 3)) (ho : 0 ≤ (pc : Int) + o) (hq : ((pc : Int) + o).toNat = q) (k : Wk l Z a0 EL y bytes mx ret R Q L cb sb q Ls (St)) : Wk l Z a0 EL y bytes mx ret R Q L cb sb pc Ls (St) :=
  Wk.pure (fun X hx hby r => XS.goto X hx rfl rfl (hb hby hd)  ho hq r) k
theorem Wk.if_t {cd : ClassFile.Cond} {u : Int32} {o : Int} (hd : decode bytes pc = .ok (.ifCond cd o, 3)) (ho : 0 ≤ (pc : Int) + o) (hq : ((pc : Int) + o).toNat = q) (hc : ifCond.holds cd u = true) (k : Wk l Z a0 EL y bytes mx ret R Q L cb sb q Ls (St)) : Wk l Z a0 EL y bytes mx ret R Q L cb sb pc Ls (.int u :: St) :=
  Wk.pure (fun X hx hby r => XS.ifYes X hx rfl rfl (hb hby hd) rfl hc ho hq r) k
theorem Wk.if_f {cd : ClassFile.Cond} {o : Int} {u : Int32} (hd : decode bytes pc = .ok (.ifCond cd o, 3)) (hq : pc + 3 = q) (hc : ifCond.holds cd u = false) (k : Wk l Z a0 EL y bytes mx ret R Q L cb sb q Ls (St)) : Wk l Z a0 EL y bytes mx ret R Q L cb sb pc Ls (.int u :: St) := by
  subst hq; exact Wk.pure (fun X hx hby r => XS.ifNo X hx rfl (hb hby hd) rfl hc r) k
theorem Wk.icmp_t {cd : ClassFile.Cond} {u w : Int32} {o : Int} (hd : decode bytes pc = .ok (.if_icmp cd o, 3)) (ho : 0 ≤ (pc : Int) + o) (hq : ((pc : Int) + o).toNat = q) (hc : if_icmp.holds cd u w = true) (k : Wk l Z a0 EL y bytes mx ret R Q L cb sb q Ls (St)) : Wk l Z a0 EL y bytes mx ret R Q L cb sb pc Ls (.int w :: .int u :: St) :=
  Wk.pure (fun X hx hby r => XS.icmpYes X hx rfl rfl (hb hby hd) rfl hc ho hq r) k
theorem Wk.icmp_f {cd : ClassFile.Cond} {o : Int} {u w : Int32} (hd : decode bytes pc = .ok (.if_icmp cd o, 3)) (hq : pc + 3 = q) (hc : if_icmp.holds cd u w = false) (k : Wk l Z a0 EL y bytes mx ret R Q L cb sb q Ls (St)) : Wk l Z a0 EL y bytes mx ret R Q L cb sb pc Ls (.int w :: .int u :: St) := by
  subst hq; exact Wk.pure (fun X hx hby r => XS.icmpNo X hx rfl (hb hby hd) rfl hc r) k
theorem Wk.null_t  {o : Int} (hd : decode bytes pc = .ok (.ifnull o, 3)) (ho : 0 ≤ (pc : Int) + o) (hq : ((pc : Int) + o).toNat = q) (k : Wk l Z a0 EL y bytes mx ret R Q L cb sb q Ls (St)) : Wk l Z a0 EL y bytes mx ret R Q L cb sb pc Ls (.null :: St) :=
  Wk.pure (fun X hx hby r => XS.ifnullYes X hx rfl rfl (hb hby hd) rfl ho hq r) k
theorem Wk.null_f {o : Int} {u : Addr} (hd : decode bytes pc = .ok (.ifnull o, 3)) (hq : pc + 3 = q) (k : Wk l Z a0 EL y bytes mx ret R Q L cb sb q Ls (St)) : Wk l Z a0 EL y bytes mx ret R Q L cb sb pc Ls (.ref u :: St) := by
  subst hq; exact Wk.pure (fun X hx hby r => XS.ifnullNo X hx rfl (hb hby hd) rfl r) k
theorem Wk.nonnull_t {u : Addr} {o : Int} (hd : decode bytes pc = .ok (.ifnonnull o, 3)) (ho : 0 ≤ (pc : Int) + o) (hq : ((pc : Int) + o).toNat = q) (k : Wk l Z a0 EL y bytes mx ret R Q L cb sb q Ls (St)) : Wk l Z a0 EL y bytes mx ret R Q L cb sb pc Ls (.ref u :: St) :=
  Wk.pure (fun X hx hby r => XT.ifnonnullYes X hx rfl rfl (hb hby hd) rfl ho hq r) k
theorem Wk.nonnull_f {o : Int} (hd : decode bytes pc = .ok (.ifnonnull o, 3)) (hq : pc + 3 = q) (k : Wk l Z a0 EL y bytes mx ret R Q L cb sb q Ls (St)) : Wk l Z a0 EL y bytes mx ret R Q L cb sb pc Ls (.null :: St) := by
  subst hq; exact Wk.pure (fun X hx hby r => XT.ifnonnullNo X hx rfl (hb hby hd) rfl r) k
theorem Wk.acmp_t {cd : ClassFile.ACond} {u w : Value} {o : Int} (hd : decode bytes pc = .ok (.if_acmp cd o, 3)) (ho : 0 ≤ (pc : Int) + o) (hq : ((pc : Int) + o).toNat = q) (h1 : u.isRef = true) (h2 : w.isRef = true) (hc : XT.acmp cd u w = true) (k : Wk l Z a0 EL y bytes mx ret R Q L cb sb q Ls (St)) : Wk l Z a0 EL y bytes mx ret R Q L cb sb pc Ls (w :: u :: St) :=
  Wk.pure (fun X hx hby r => XT.acmpYes X hx rfl rfl (hb hby hd) rfl h1 h2 hc ho hq r) k
theorem Wk.acmp_f {cd : ClassFile.ACond} {o : Int} {u w : Value} (hd : decode bytes pc = .ok (.if_acmp cd o, 3)) (hq : pc + 3 = q) (h1 : u.isRef = true) (h2 : w.isRef = true) (hc : XT.acmp cd u w = false) (k : Wk l Z a0 EL y bytes mx ret R Q L cb sb q Ls (St)) : Wk l Z a0 EL y bytes mx ret R Q L cb sb pc Ls (w :: u :: St) := by
  subst hq; exact Wk.pure (fun X hx hby r => XT.acmpNo X hx rfl (hb hby hd) rfl h1 h2 hc r) k

/-- a step that reads the tables or the heap and leaves the heap -/
theorem Wk.same {Ls' : List Slot} {St' : List Value} (st : ∀ {p : Program} {e : Env} {s : State} {m : MethodId} {args : Array Value} {below : List Frame} {meth : Method} {c : Code} {T : State} {vm0 : Vm} {locs : List Loc} {cells slots : Nat}, p.tables.exec = Jvm.exec → c.code = bytes → c.maxLocals = mx → vm0.findClass y.cls = some m.cls → Z.Warmed39 vm0 → Inv Z EL vm0 T.heap L →
      Stand p l e R (s.setVm vm0) m args below meth c T locs cells slots → ∃ T', Stand p l e R (s.setVm vm0) m args below meth c T' locs cells slots ∧ T'.heap = T.heap ∧ ∀ target, Steps p.tables e below (T'.setTop (mkF m q ⟨Ls'⟩ St')) target → Steps p.tables e below (T.setTop (mkF m pc ⟨Ls⟩ St)) target)
    (k : Wk l Z a0 EL y bytes mx ret R Q L cb sb q Ls' St') : Wk l Z a0 EL y bytes mx ret R Q L cb sb pc Ls St := by
  intro p e s m args below meth c T vm0 k0 locs cells slots hx hby hmx hret hlk hnm hown X hS hk hZ hE hI hF hc hs
  obtain ⟨T', X', e', st'⟩ := st hx hby hmx hown hZ hI X
  obtain ⟨fin, v, Lc, L', h1, r⟩ := k p e s m args below meth c T' vm0 k0 locs cells slots hx hby hmx hret hlk hnm hown X' hS (by rw [e']; exact hk) hZ hE (by rw [e']; exact hI) hF hc hs
  exact ⟨fin, v, Lc, L', st' _ h1, r⟩
theorem Wk.getfield {i : Nat} (j : Nat) {a : Addr} {fl : Bool} {C R0 O n d : String} {lay : Lay} {vs : List Value} {v : Value} (hd : decode bytes pc = .ok (.getfield i, 3)) (hq : pc + 3 = q) (w : (Jvm.Cond.fieldLink y.cls i R0 n d).before a0 Z = true) (via : Via Z R0 O n d)
    (hm : (a, fl, OB Z C lay vs) ∈ L) (hj : lay[j]? = some (O, n, d)) (hv : vs[j]? = some v) (k : Wk l Z a0 EL y bytes mx ret R Q L cb sb q Ls (v :: St)) : Wk l Z a0 EL y bytes mx ret R Q L cb sb pc Ls (.ref a :: St) := by
  subst hq
  refine Wk.same (fun {p e s m args below meth c T vm0 locs cells slots} hx hby hmx hown hZ hI X => ?_) k
  obtain ⟨cl, e1, e2⟩ := hI.at_ hm
  exact getF X hx hZ hown (host := "") (Or.inl w) via rfl (e2.fld e1 hj hv) (g := mkF m pc ⟨Ls⟩ (.ref a :: St)) rfl rfl (hb hby hd)
theorem Wk.getstatic {i : Nat} {R0 O n d : String} {v : Value} (hd : decode bytes pc = .ok (.getstatic i, 3)) (hq : pc + 3 = q) (w : (Jvm.Cond.fieldLink y.cls i R0 n d).before a0 Z = true) (via : Via Z R0 O n d) (F : Sta Z Z.heap O n d v)
    (k : Wk l Z a0 EL y bytes mx ret R Q L cb sb q Ls (v :: St)) : Wk l Z a0 EL y bytes mx ret R Q L cb sb pc Ls St := by
  subst hq
  refine Wk.same (fun {p e s m args below meth c T vm0 locs cells slots} hx hby hmx hown hZ hI X => ?_) k
  exact getS (host := "") X hx hZ hown w via rfl (F.ext hI.1) (g := mkF m pc ⟨Ls⟩ St) rfl (hb hby hd)
theorem Wk.checkcast {i : Nat} {a : Addr} {fl : Bool} {C K : String} {lay : Lay} {vs : List Value} (hd : decode bytes pc = .ok (.checkcast i, 3)) (hq : pc + 3 = q) (w : (Jvm.Cond.classLink y.cls i K).before a0 Z = true) (hm : (a, fl, OB Z C lay vs) ∈ L) (wc : (Jvm.Cond.castable C K).before a0 Z = true)
    (k : Wk l Z a0 EL y bytes mx ret R Q L cb sb q Ls (.ref a :: St)) : Wk l Z a0 EL y bytes mx ret R Q L cb sb pc Ls (.ref a :: St) := by
  subst hq
  refine Wk.same (fun {p e s m args below meth c T vm0 locs cells slots} hx hby hmx hown hZ hI X => ?_) k
  obtain ⟨cl, e1, e2⟩ := hI.at_ hm
  exact castY X hx hZ hown w rfl (Ins.of_exa (e2.exa e1) wc) (g := mkF m pc ⟨Ls⟩ (.ref a :: St)) rfl rfl (hb hby hd)
theorem Wk.instanceof_t {i : Nat} {a : Addr} {fl : Bool} {C K : String} {lay : Lay} {vs : List Value} (hd : decode bytes pc = .ok (.instanceof i, 3)) (hq : pc + 3 = q) (w : (Jvm.Cond.classLink y.cls i K).before a0 Z = true) (hm : (a, fl, OB Z C lay vs) ∈ L) (wc : (Jvm.Cond.castable C K).before a0 Z = true)
    (k : Wk l Z a0 EL y bytes mx ret R Q L cb sb q Ls (.int 1 :: St)) : Wk l Z a0 EL y bytes mx ret R Q L cb sb pc Ls (.ref a :: St) := by
  subst hq
  refine Wk.same (fun {p e s m args below meth c T vm0 locs cells slots} hx hby hmx hown hZ hI X => ?_) k
  obtain ⟨cl, e1, e2⟩ := hI.at_ hm
  exact instY X hx hZ hown w rfl (Ins.of_exa (e2.exa e1) wc) (g := mkF m pc ⟨Ls⟩ (.ref a :: St)) rfl rfl (hb hby hd)
theorem Wk.instanceof_f {i : Nat} {a : Addr} {fl : Bool} {C K : String} {lay : Lay} {vs : List Value} (hd : decode bytes pc = .ok (.instanceof i, 3)) (hq : pc + 3 = q) (w : (Jvm.Cond.classLink y.cls i K).before a0 Z = true) (hm : (a, fl, OB Z C lay vs) ∈ L) (F : ∃ c t, Z.vm.findClass C = some c ∧ Z.vm.findClass K = some t ∧ Z.vm.assignable c t = false)
    (k : Wk l Z a0 EL y bytes mx ret R Q L cb sb q Ls (.int 0 :: St)) : Wk l Z a0 EL y bytes mx ret R Q L cb sb pc Ls (.ref a :: St) := by
  subst hq
  refine Wk.same (fun {p e s m args below meth c T vm0 locs cells slots} hx hby hmx hown hZ hI X => ?_) k
  obtain ⟨cl, e1, e2⟩ := hI.at_ hm
  exact instNo X hx hZ hown w rfl (e2.exa e1) F (g := mkF m pc ⟨Ls⟩ (.ref a :: St)) rfl rfl (hb hby hd)
theorem Wk.ldc_int {i : Nat} {u : Int32} (hd : decode bytes pc = .ok (.ldc i, 2)) (hq : pc + 2 = q) (w : (Jvm.Cond.constant y.cls i u).before a0 Z = true) (k : Wk l Z a0 EL y bytes mx ret R Q L cb sb q Ls (.int u :: St)) : Wk l Z a0 EL y bytes mx ret R Q L cb sb pc Ls St := by
  subst hq
  refine Wk.same (fun {p e s m args below meth c T vm0 locs cells slots} hx hby hmx hown hZ hI X => ?_) k
  exact ⟨T, X, rfl, fun target r => ldcI X hx hown (mv (s := s.setVm vm0) hZ w) (g := mkF m pc ⟨Ls⟩ St) rfl (hb hby hd) r⟩
theorem Wk.ldc2_w {i : Nat} {u : Int64} (hd : decode bytes pc = .ok (.ldc2_w i, 3)) (hq : pc + 3 = q) (w : (Jvm.Cond.constantLong y.cls i u).before a0 Z = true) (k : Wk l Z a0 EL y bytes mx ret R Q L cb sb q Ls (.long u :: St)) : Wk l Z a0 EL y bytes mx ret R Q L cb sb pc Ls St := by
  subst hq
  refine Wk.same (fun {p e s m args below meth c T vm0 locs cells slots} hx hby hmx hown hZ hI X => ?_) k
  exact ⟨T, X, rfl, fun target r => ldc2J X hx hown (mv (s := s.setVm vm0) hZ w) (g := mkF m pc ⟨Ls⟩ St) rfl (hb hby hd) r⟩
theorem Wk.objinit {i : Nat} {a : Addr} (W : Nat) (hd : decode bytes pc = .ok (.invokespecial i, 3)) (hq : pc + 3 = q) (w1 : (Jvm.Cond.methodLink y.cls i Lib.objectInit).before a0 Z = true) (w2 : (Jvm.Cond.instanceMethod Lib.objectInit).before a0 Z = true) (w3 : (Jvm.Cond.code Lib.objectInit ⟨#[0xb1]⟩ 1 none).before a0 Z = true)
    (hz : Ls.length = mx) (hf : 1 ≤ R.frames) (hW : (St.map fun v => v.category).sum = W) (hl : W + 12 ≤ R.locals) (k : Wk l Z a0 EL y bytes mx ret R Q L cb sb q Ls St) : Wk l Z a0 EL y bytes mx ret R Q L cb sb pc Ls (.ref a :: St) := by
  subst hq
  refine Wk.same (fun {p e s m args below meth c T vm0 locs cells slots} hx hby hmx hown hZ hI X => ?_) k
  exact initO X hx hZ hown w1 w2 w3 rfl (g := mkF m pc ⟨Ls⟩ (.ref a :: St)) rfl (by rw [hmx]; simpa using hz) rfl (hb hby hd) hf (W := W) (by show 2 * 0 + _ ≤ _; rw [hW]; omega) hl
theorem Wk.arraylength {a : Addr} {fl : Bool} {ty : FieldType} {vs : List Value} {u : Int32} (hd : decode bytes pc = .ok (.arraylength, 1)) (hq : pc + 1 = q) (hm : (a, fl, AR Z ty vs) ∈ L) (hu : vs.length.toInt32 = u) (k : Wk l Z a0 EL y bytes mx ret R Q L cb sb q Ls (.int u :: St)) : Wk l Z a0 EL y bytes mx ret R Q L cb sb pc Ls (.ref a :: St) := by
  subst hq
  refine Wk.same (fun {p e s m args below meth c T vm0 locs cells slots} hx hby hmx hown hZ hI X => ?_) k
  obtain ⟨cl, e1, e2⟩ := hI.at_ hm
  exact ⟨T, X, rfl, fun target r => X.arraylength hx e1 (State.isArrayOf_alike (T := s.setVm vm0) hZ.alike e2.1) (g := mkF m pc ⟨Ls⟩ (.ref a :: St)) rfl rfl (hb hby hd) target (by rw [e2.size, hu]; exact r)⟩
theorem inside {Z : State} {ty : FieldType} {vs : List Value} {c : Cell} {j : Int32} {i : Nat} {v : Value} (F : AR Z ty vs c) (hj : ¬ j < 0) (hi : j.toNatClampNeg = i) (hv : vs[i]? = some v) : ¬ (j < 0 ∨ c.slots.size ≤ j.toNatClampNeg) := by
  have := (List.getElem?_eq_some_iff.mp hv).1
  rw [F.size, hi]
  rintro (q | q)
  · exact hj q
  · omega
theorem Wk.caload {a : Addr} {fl : Bool} {vs : List Value} {j : Int32} (i : Nat) {v : Value} (hd : decode bytes pc = .ok (.caload, 1)) (hq : pc + 1 = q) (hm : (a, fl, AR Z .char vs) ∈ L) (hj : ¬ j < 0) (hi : j.toNatClampNeg = i) (hv : vs[i]? = some v) (k : Wk l Z a0 EL y bytes mx ret R Q L cb sb q Ls (v :: St)) : Wk l Z a0 EL y bytes mx ret R Q L cb sb pc Ls (.int j :: .ref a :: St) := by
  subst hq
  refine Wk.same (fun {p e s m args below meth c T vm0 locs cells slots} hx hby hmx hown hZ hI X => ?_) k
  obtain ⟨cl, e1, e2⟩ := hI.at_ hm
  exact ⟨T, X, rfl, fun target r => X.caload hx e1 (State.isArrayOf_alike (T := s.setVm vm0) hZ.alike e2.1) e2.2.1 (inside e2 hj hi hv) (by rw [hi]; exact e2.get hv) (g := mkF m pc ⟨Ls⟩ (.int j :: .ref a :: St)) rfl rfl (hb hby hd) target r⟩
theorem Wk.baload {a : Addr} {fl : Bool} {vs : List Value} {j : Int32} (i : Nat) {v : Value} (hd : decode bytes pc = .ok (.baload, 1)) (hq : pc + 1 = q) (hm : (a, fl, AR Z .byte vs) ∈ L) (hj : ¬ j < 0) (hi : j.toNatClampNeg = i) (hv : vs[i]? = some v) (k : Wk l Z a0 EL y bytes mx ret R Q L cb sb q Ls (v :: St)) : Wk l Z a0 EL y bytes mx ret R Q L cb sb pc Ls (.int j :: .ref a :: St) := by
  subst hq
  refine Wk.same (fun {p e s m args below meth c T vm0 locs cells slots} hx hby hmx hown hZ hI X => ?_) k
  obtain ⟨cl, e1, e2⟩ := hI.at_ hm
  exact ⟨T, X, rfl, fun target r => X.baloadBytes hx e1 (State.isArrayOf_alike (T := s.setVm vm0) hZ.alike e2.1) e2.2.1 (inside e2 hj hi hv) (by rw [hi]; exact e2.get hv) (g := mkF m pc ⟨Ls⟩ (.int j :: .ref a :: St)) rfl rfl (hb hby hd) target r⟩
theorem Wk.aaload {a : Addr} {fl : Bool} {C : String} {vs : List Value} {j : Int32} (i : Nat) {v : Value} (hd : decode bytes pc = .ok (.aaload, 1)) (hq : pc + 1 = q) (hm : (a, fl, RA Z C vs) ∈ L) (hj : ¬ j < 0) (hi : j.toNatClampNeg = i) (hv : vs[i]? = some v) (k : Wk l Z a0 EL y bytes mx ret R Q L cb sb q Ls (v :: St)) : Wk l Z a0 EL y bytes mx ret R Q L cb sb pc Ls (.int j :: .ref a :: St) := by
  subst hq
  refine Wk.same (fun {p e s m args below meth c T vm0 locs cells slots} hx hby hmx hown hZ hI X => ?_) k
  obtain ⟨cl, e1, e2⟩ := hI.at_ hm
  exact ⟨T, X, rfl, fun target r => X.aaload hx e1 (State.isArrayOf_alike (T := s.setVm vm0) hZ.alike e2.1.1) rfl e2.1.2.1 (inside e2.1 hj hi hv) (by rw [hi]; exact e2.1.get hv) (g := mkF m pc ⟨Ls⟩ (.int j :: .ref a :: St)) rfl rfl (hb hby hd) target r⟩
/-- a list with one place written over -/
def VS (j : Nat) (v : Value) (vs vs' : List Value) : Prop := vs.set j v = vs' ∧ j < vs.length
theorem VS.here {v o : Value} {vs : List Value} : VS 0 v (o :: vs) (v :: vs) := ⟨rfl, Nat.succ_pos _⟩
theorem VS.there {j : Nat} {v o : Value} {vs vs' : List Value} (h : VS j v vs vs') : VS (j + 1) v (o :: vs) (o :: vs') := ⟨by rw [List.set_cons_succ, h.1], Nat.succ_lt_succ h.2⟩
theorem VS.of {j : Nat} {v : Value} {vs : List Value} (h : j < vs.length) : VS j v vs (vs.set j v) := ⟨rfl, h⟩
/-- a step that writes a place of the entry a -/
theorem Wk.write {a : Addr} {P P' : Cell → Prop} {St' : List Value} (hm : Ex L (a, true, P) L0)
    (st : ∀ {p : Program} {e : Env} {s : State} {m : MethodId} {args : Array Value} {below : List Frame} {meth : Method} {c : Code} {T : State} {vm0 : Vm} {locs : List Loc} {cells slots : Nat}, p.tables.exec = Jvm.exec → c.code = bytes → c.maxLocals = mx → meth.name = y.name → vm0.findClass y.cls = some m.cls → Z.Warmed39 vm0 → Inv Z EL vm0 T.heap ((a, true, P) :: L0) →
      Stand p l e R (s.setVm vm0) m args below meth c T locs cells slots → ∃ T' h' sl v, Stand p l e R (s.setVm vm0) m args below meth c T' (locs ++ [⟨a, sl⟩]) cells slots ∧ T'.heap = h' ∧ Wr T.heap h' a sl v ∧ (∀ cl, T.heap[a]? = some cl → P cl → P' (cl.setSlot sl v)) ∧ ∀ target, Steps p.tables e below (T'.setTop (mkF m q ⟨Ls⟩ St')) target → Steps p.tables e below (T.setTop (mkF m pc ⟨Ls⟩ St)) target)
    (k : Wk l Z a0 EL y bytes mx ret R Q ((a, true, P') :: L0) cb sb q Ls St') : Wk l Z a0 EL y bytes mx ret R Q L cb sb pc Ls St := by
  refine Wk.pull hm ?_
  intro p e s m args below meth c T vm0 k0 locs cells slots hx hby hmx hret hlk hnm hown X hS hk hZ hE hI hF hc hs
  obtain ⟨T', h', sl, v, X', rfl, W, hP, st'⟩ := st hx hby hmx hnm hown hZ hI X
  obtain ⟨fin, v, Lc, L', h1, r⟩ := k p e s m args below meth c T' vm0 k0 _ cells slots hx hby hmx hret hlk hnm hown X' hS (by rw [W.size]; exact hk) hZ hE (hI.wr W hP) (Fr.snoc X' hF (hI.2.2.2.1 _ (List.mem_cons_self ..) rfl).1) hc hs
  exact ⟨fin, v, Lc, L', st' _ h1, r⟩
theorem Wk.putfield {i : Nat} (j : Nat) {kk : Nat} {a : Addr} {C R0 O n d : String} {lay : Lay} {vs vs' : List Value} {v : Value} {ty : FieldType} (hd : decode bytes pc = .ok (.putfield i, 3)) (hq : pc + 3 = q) (w : (Jvm.Cond.fieldLink y.cls i R0 n d).before a0 Z = true) (via : Via Z R0 O n d)
    (K : LayOk Z a0 C lay) (wi : (Jvm.Cond.instantiable C kk).before a0 Z = true) (hl : (Jvm.Cond.lays C O n d).before a0 Z = true ∨ ((Jvm.Cond.laysFinal C O n d).before a0 Z = true ∧ y.cls = O ∧ y.name = "<init>")) (hj : lay[j]? = some (O, n, d)) (hty : parseFieldDescriptor d = some ty) (hm : Ex L (a, true, OB Z C lay vs) L0) (hvs : VS j v vs vs') (hn : narrow ty v = v) (hf : fits ty v = true)
    (k : Wk l Z a0 EL y bytes mx ret R Q ((a, true, OB Z C lay vs') :: L0) cb sb q Ls St) : Wk l Z a0 EL y bytes mx ret R Q L cb sb pc Ls (v :: .ref a :: St) := by
  subst hq
  obtain ⟨rfl, hlt⟩ := hvs
  have hv : vs[j]? = some vs[j] := List.getElem?_eq_getElem hlt
  refine Wk.write hm (fun {p e s m args below meth c T vm0 locs cells slots} hx hby hmx hnm hown hZ hI X => ?_) k
  obtain ⟨cl, e1, e2⟩ := hI.at_ (List.mem_cons_self ..)
  obtain ⟨T', h', X', eh, W, st⟩ := putF X hx hZ hown (host := "") (Or.inl w) via rfl (e2.fld e1 hj hv) (e2.exa e1) (hl.imp id fun h => ⟨h.1, h.2.1, hnm.trans h.2.2⟩) wi hty hn hf (g := mkF m pc ⟨Ls⟩ (v :: .ref a :: St)) rfl rfl (hb hby hd)
  exact ⟨T', h', _, v, X', eh, W, fun cl' e3 e4 => OB.set K e4 hj hv v, st⟩
theorem Wk.castore {a : Addr} {vs vs' : List Value} {j u u' : Int32} (i : Nat) (hd : decode bytes pc = .ok (.castore, 1)) (hq : pc + 1 = q) (hm : Ex L (a, true, AR Z .char vs) L0) (hj : ¬ j < 0) (hi : j.toNatClampNeg = i) (hu : nar .char u = u') (hvs : VS i (.int u') vs vs')
    (k : Wk l Z a0 EL y bytes mx ret R Q ((a, true, AR Z .char vs') :: L0) cb sb q Ls St) : Wk l Z a0 EL y bytes mx ret R Q L cb sb pc Ls (.int u :: .int j :: .ref a :: St) := by
  subst hq hu
  obtain ⟨rfl, hlt⟩ := hvs
  refine Wk.write hm (fun {p e s m args below meth c T vm0 locs cells slots} hx hby hmx hnm hown hZ hI X => ?_) k
  obtain ⟨cl, e1, e2⟩ := hI.at_ (List.mem_cons_self ..)
  obtain ⟨T', h', X', eh, W, st⟩ := stC X hx hZ rfl (e2.arr e1) (inside e2 hj hi (List.getElem?_eq_getElem hlt)) (g := mkF m pc ⟨Ls⟩ (.int u :: .int j :: .ref a :: St)) rfl rfl (hb hby hd)
  exact ⟨T', h', _, _, X', eh, W, fun cl' e3 e4 => by rw [hi]; exact e4.set _ _, st⟩
theorem Wk.bastore {a : Addr} {vs vs' : List Value} {j u u' : Int32} (i : Nat) (hd : decode bytes pc = .ok (.bastore, 1)) (hq : pc + 1 = q) (hm : Ex L (a, true, AR Z .byte vs) L0) (hj : ¬ j < 0) (hi : j.toNatClampNeg = i) (hu : nar .byte u = u') (hvs : VS i (.int u') vs vs')
    (k : Wk l Z a0 EL y bytes mx ret R Q ((a, true, AR Z .byte vs') :: L0) cb sb q Ls St) : Wk l Z a0 EL y bytes mx ret R Q L cb sb pc Ls (.int u :: .int j :: .ref a :: St) := by
  subst hq hu
  obtain ⟨rfl, hlt⟩ := hvs
  refine Wk.write hm (fun {p e s m args below meth c T vm0 locs cells slots} hx hby hmx hnm hown hZ hI X => ?_) k
  obtain ⟨cl, e1, e2⟩ := hI.at_ (List.mem_cons_self ..)
  obtain ⟨T', h', X', eh, W, st⟩ := stB X hx hZ rfl (e2.arr e1) (inside e2 hj hi (List.getElem?_eq_getElem hlt)) (g := mkF m pc ⟨Ls⟩ (.int u :: .int j :: .ref a :: St)) rfl rfl (hb hby hd)
  exact ⟨T', h', _, _, X', eh, W, fun cl' e3 e4 => by rw [hi]; exact e4.set _ _, st⟩
theorem Wk.aastore {a b : Addr} {fl : Bool} {C D : String} {lay : Lay} {ws : List Value} {vs vs' : List Value} {j : Int32} (i : Nat) (hd : decode bytes pc = .ok (.aastore, 1)) (hq : pc + 1 = q) (hm : Ex L (a, true, RA Z C vs) L0) (ho : (b, fl, OB Z D lay ws) ∈ L0) (wc : (Jvm.Cond.castable D C).before a0 Z = true) (hj : ¬ j < 0) (hi : j.toNatClampNeg = i) (hvs : VS i (.ref b) vs vs')
    (k : Wk l Z a0 EL y bytes mx ret R Q ((a, true, RA Z C vs') :: L0) cb sb q Ls St) : Wk l Z a0 EL y bytes mx ret R Q L cb sb pc Ls (.ref b :: .int j :: .ref a :: St) := by
  subst hq
  obtain ⟨rfl, hlt⟩ := hvs
  refine Wk.write hm (fun {p e s m args below meth c T vm0 locs cells slots} hx hby hmx hnm hown hZ hI X => ?_) k
  obtain ⟨cl, e1, e2⟩ := hI.at_ (List.mem_cons_self ..)
  obtain ⟨cb, f1, f2⟩ := hI.at_ (List.mem_cons_of_mem _ ho)
  obtain ⟨T', h', X', eh, W, st⟩ := stR X hx hZ rfl (e2.1.arr e1) (inside e2.1 hj hi (List.getElem?_eq_getElem hlt)) rfl (Sto.of (e2.1.arr e1) e2.2 (Ins.of_exa (f2.exa f1) wc)) (g := mkF m pc ⟨Ls⟩ (.ref b :: .int j :: .ref a :: St)) rfl rfl (hb hby hd)
  exact ⟨T', h', _, _, X', eh, W, fun cl' e3 e4 => by rw [hi]; exact ⟨e4.1.set _ _, e4.2⟩, st⟩
/-- the first values of a layout's fields -/
abbrev Dv (lay : Lay) (dv : List Value) : Prop := lay.map (fun f => (parseFieldDescriptor f.2.2).map defaultValue) = dv.map some
theorem Wk.new {i n : Nat} {C : String} {lay : Lay} {dv : List Value} (hd : decode bytes pc = .ok (.new i, 3)) (hq : pc + 3 = q) (w : (Jvm.Cond.classLink y.cls i C).before a0 Z = true) (wi : (Jvm.Cond.instantiable C n).before a0 Z = true) (wz : (Jvm.Cond.initialized C).before a0 Z = true) (K : LayOk Z a0 C lay) (hdv : Dv lay dv)
    (hcb : 1 ≤ cb) (hsb : n ≤ sb) (k : ∀ a : Addr, Wk l Z a0 EL y bytes mx ret R Q ((a, true, OB Z C lay dv) :: L) (cb - 1) (sb - n) q Ls (.ref a :: St)) : Wk l Z a0 EL y bytes mx ret R Q L cb sb pc Ls St := by
  subst hq
  intro p e s m args below meth c T vm0 k0 locs cells slots hx hby hmx hret hlk hnm hown X hS hk hZ hE hI hF hc hs
  obtain ⟨T', h', X', rfl, E, A, D, -, st⟩ := newO X hx hZ hown w wi wz rfl (g := mkF m pc ⟨Ls⟩ St) rfl (hb hby hd) (by omega) (by omega)
  obtain ⟨cl, kc, e1, e2⟩ := A
  have hP : OB Z C lay dv cl := by
    refine ⟨⟨kc, e2⟩, fun j f v h1 h2 => of_fld e1 ?_⟩
    have q1 : (lay.map (fun f => (parseFieldDescriptor f.2.2).map defaultValue))[j]? = some ((parseFieldDescriptor f.2.2).map defaultValue) := by simp [h1]
    rw [show lay.map (fun f => (parseFieldDescriptor f.2.2).map defaultValue) = dv.map some from hdv] at q1
    simp only [List.getElem?_map, h2, Option.map_some, Option.some.injEq] at q1
    cases hp : parseFieldDescriptor f.2.2 with
    | none => rw [hp] at q1; cases q1
    | some t =>
      rw [hp] at q1
      simp only [Option.map_some, Option.some.injEq] at q1
      rw [q1]
      exact D (K.1 f (List.mem_of_getElem? h1)) hp
  obtain ⟨fin, v, Lc, L', h1, r⟩ := k T.heap.size p e s m args below meth c T' vm0 k0 locs (cells + 1) (slots + n) hx hby hmx hret hlk hnm hown X' hS (Nat.le_trans hk E.1) hZ hE (hI.new E e1 hP) hF (by omega) (by omega)
  exact ⟨fin, v, Lc, L', st _ h1, r⟩
theorem Wk.newarray {aty : ArrayType} {u : Int32} (ty : FieldType) (N : Nat) (vs0 : List Value) (hd : decode bytes pc = .ok (.newarray aty, 2)) (hq : pc + 2 = q) (hty : newarray.typeOf aty = ty) (h0 : List.replicate N (defaultValue ty) = vs0) (w : (Jvm.Cond.arrayClass ty).before a0 Z = true) (hu : ¬ u < 0) (hN : u.toNatClampNeg = N) (hbig : N ≤ 67108864) (hcb : 1 ≤ cb) (hsb : N ≤ sb)
    (k : ∀ a : Addr, Wk l Z a0 EL y bytes mx ret R Q ((a, true, AR Z ty vs0) :: L) (cb - 1) (sb - N) q Ls (.ref a :: St)) : Wk l Z a0 EL y bytes mx ret R Q L cb sb pc Ls (.int u :: St) := by
  subst hq hty h0
  intro p e s m args below meth c T vm0 k0 locs cells slots hx hby hmx hret hlk hnm hown X hS hk hZ hE hI hF hc hs
  obtain ⟨T', h', cA, X', rfl, E, A, st⟩ := newP X hx hZ w rfl (g := mkF m pc ⟨Ls⟩ (.int u :: St)) rfl (hb hby hd) rfl hu (cap := N) (Nat.le_of_eq hN) (by omega) (by omega) (by omega)
  have hP : AR Z (newarray.typeOf aty) (List.replicate N (defaultValue (newarray.typeOf aty))) (newA cA (newarray.typeOf aty) u) := ⟨A.2.1, A.2.2, by simp [newA, hN], by simp; omega⟩
  obtain ⟨fin, v, Lc, L', h1, r⟩ := k T.heap.size p e s m args below meth c T' vm0 k0 locs (cells + 1) (slots + N) hx hby hmx hret hlk hnm hown X' hS (Nat.le_trans hk E.1) hZ hE (hI.new E A.1 hP) hF (by omega) (by omega)
  exact ⟨fin, v, Lc, L', st _ h1, r⟩
theorem Wk.anewarray {i : Nat} {C : String} {u : Int32} (N : Nat) (vs0 : List Value) (hd : decode bytes pc = .ok (.anewarray i, 3)) (hq : pc + 3 = q) (w1 : (Jvm.Cond.classLink y.cls i C).before a0 Z = true) (h0 : List.replicate N Value.null = vs0) (w2 : (Jvm.Cond.arrayOver (.object C)).before a0 Z = true) (hu : ¬ u < 0) (hN : u.toNatClampNeg = N) (hbig : N ≤ 67108864) (hcb : 1 ≤ cb) (hsb : N ≤ sb)
    (k : ∀ a : Addr, Wk l Z a0 EL y bytes mx ret R Q ((a, true, RA Z C vs0) :: L) (cb - 1) (sb - N) q Ls (.ref a :: St)) : Wk l Z a0 EL y bytes mx ret R Q L cb sb pc Ls (.int u :: St) := by
  subst hq h0
  intro p e s m args below meth c T vm0 k0 locs cells slots hx hby hmx hret hlk hnm hown X hS hk hZ hE hI hF hc hs
  obtain ⟨T', h', cA, X', rfl, E, A, O, st⟩ := newR X hx hZ hown w1 w2 rfl (g := mkF m pc ⟨Ls⟩ (.int u :: St)) rfl (hb hby hd) rfl hu (cap := N) (Nat.le_of_eq hN) (by omega) (by omega) (by omega)
  have hP : RA Z C (List.replicate N .null) (newA cA (.object C) u) := ⟨⟨A.2.1, A.2.2, by simp [newA, hN, defaultValue], by simp; omega⟩, O⟩
  obtain ⟨fin, v, Lc, L', h1, r⟩ := k T.heap.size p e s m args below meth c T' vm0 k0 locs (cells + 1) (slots + N) hx hby hmx hret hlk hnm hown X' hS (Nat.le_trans hk E.1) hZ hE (hI.new E A.1 hP) hF (by omega) (by omega)
  exact ⟨fin, v, Lc, L', st _ h1, r⟩
/-- a String constant, opaque -/
theorem Wk.ldcO {i : Nat} {text : String} (n : Nat) (hd : decode bytes pc = .ok (.ldc i, 2)) (hq : pc + 2 = q) (w : (Jvm.Cond.stringLink y.cls i text).before a0 Z = true) (wS : ∀ a ∈ Bundle.stringAtoms, a.before a0 Z = true) (hn : 4 * text.toList.length ≤ n) (hbig : n ≤ 536870912) (hcb : 2 ≤ cb) (hsb : n + 4 ≤ sb)
    (k : ∀ a : Addr, Wk l Z a0 EL y bytes mx ret R Q L (cb - 2) (sb - (n + 4)) q Ls (.ref a :: St)) : Wk l Z a0 EL y bytes mx ret R Q L cb sb pc Ls St := by
  subst hq
  intro p e s m args below meth c T vm0 k0 locs cells slots hx hby hmx hret hlk hnm hown X hS hk hZ hE hI hF hc hs
  obtain ⟨a, T', h', k1, X', rfl, E, hS', hk', hW', hown', hC, -, st⟩ := ldcOH X hx hZ hown w wS rfl hS hk hE hI.2.1 (g := mkF m pc ⟨Ls⟩ St) rfl (hb hby hd) hn hbig (by omega) (by omega)
  obtain ⟨fin, v, Lc, L', h1, r⟩ := k a p e s m args below meth c T' T'.vm k1 locs (cells + 2) (slots + (n + 4)) hx hby hmx hret hlk hnm hown' X' hS' hk' hW' hE (hI.later E hC) hF (by omega) (by omega)
  exact ⟨fin, v, Lc, L', st _ h1, r⟩
def layS : Lay := [("java/lang/String", "value", "[B"), ("java/lang/String", "coder", "B")]
theorem ar_of_arv {Z : State} {h : Heap} {a : Addr} {k : ClassId} {ty : FieldType} {z : Int32} {vs : List Value} {d : Value} (A : Arv Z h a k ty z vs d) (hz : z.toNatClampNeg = vs.length) : ∃ c : Cell, h[a]? = some c ∧ AR Z ty vs c := by
  obtain ⟨c, A, -, h2, h3, H, -⟩ := A
  refine ⟨c, A.1, A.2.1, A.2.2, ?_, ?_⟩
  · apply List.ext_getElem?
    intro i
    rw [hz] at h2
    by_cases q : i < c.slots.size
    · have := H i q
      rw [Array.getElem?_toList, this]
      have q' : i < vs.length := by omega
      simp [List.getD, List.getElem?_eq_getElem q']
    · rw [Array.getElem?_toList, Array.getElem?_eq_none (by omega), List.getElem?_eq_none (by omega)]
  · rw [← hz]; exact (back32 h3).2
/-- a String constant, read -/
theorem Wk.ldcS {i : Nat} {text : String} (n : Nat) (vs : List Value) (z : Int32) (hd : decode bytes pc = .ok (.ldc i, 2)) (hq : pc + 2 = q) (w : (Jvm.Cond.stringLink y.cls i text).before a0 Z = true) (wS : ∀ a ∈ Bundle.stringAtoms, a.before a0 Z = true) (hmem : (y.cls, i) ∈ EL)
    (ht : (∀ c ∈ text.toList, c.toNat < 256) ∧ text.toList.map (fun c => Value.int (Jvm.Lit.byteI c.toNat.toUInt16)) = vs) (hz : ¬ z < 0) (hz' : z.toNatClampNeg = vs.length) (hn : 4 * text.toList.length ≤ n) (hbig : n ≤ 536870912) (hcb : 2 ≤ cb) (hsb : n + 4 ≤ sb)
    (k : ∀ a b : Addr, Wk l Z a0 EL y bytes mx ret R Q ((a, false, OB Z "java/lang/String" layS [.ref b, .int 0]) :: (b, false, AR Z .byte vs) :: L) (cb - 2) (sb - (n + 4)) q Ls (.ref a :: St)) : Wk l Z a0 EL y bytes mx ret R Q L cb sb pc Ls St := by
  subst hq
  intro p e s m args below meth c T vm0 k0 locs cells slots hx hby hmx hret hlk hnm hown X hS hk hZ hE hI hF hc hs
  obtain ⟨a, T', h', k1, b, kb, X', rfl, E, hS', hk', hW', hown', x1, x2, x3, x4, -, -, hC, -, hne, st⟩ := ldcCH X hx hZ hown w wS rfl hS hk hE hmem hI.2.1 ht hz hz' (g := mkF m pc ⟨Ls⟩ St) rfl (hb hby hd) hn hbig (by omega) (by omega)
  have I1 := hI.later E hC
  obtain ⟨cB, b1, b2⟩ := ar_of_arv x4 hz'
  have I2 := I1.old b1 b2 (fun x _ hs => (hne x hs).2)
  obtain ⟨cl, kc, e1, e2⟩ := x1
  have I3 := I2.old (P := OB Z "java/lang/String" layS [.ref b, .int 0]) e1 ⟨⟨kc, e2⟩, fun j f v h1 h2 => by
    match j, h1, h2 with
    | 0, h1, h2 => cases h1; cases h2; exact of_fld e1 x3
    | 1, h1, h2 => cases h1; cases h2; exact of_fld e1 x2
    | j + 2, h1, _ => cases h1⟩ (fun x _ hs => (hne x hs).1)
  obtain ⟨fin, v, Lc, L', h1, r⟩ := k a b p e s m args below meth c T' T'.vm k1 locs (cells + 2) (slots + (n + 4)) hx hby hmx hret hlk hnm hown' X' hS' hk' hW' hE I3 hF (by omega) (by omega)
  exact ⟨fin, v, Lc, L', st _ h1, r⟩
/-- what a value that is returned says; what a body that returns nothing says -/
def RV (Q : Value → Store → Prop) : Option Value → Store → Prop := fun v L => ∃ u, v = some u ∧ Q u L
def R0 (Q : Store → Prop) : Option Value → Store → Prop := fun v L => v = none ∧ Q L
theorem Wk.leave (v : Option Value) (hv : ret = none → v = none) (hQ : Q v L)
    (st : ∀ {p : Program} {e : Env} {s : State} {m : MethodId} {args : Array Value} {below : List Frame} {meth : Method} {c : Code} {T : State} {vm0 : Vm} {locs : List Loc} {cells slots : Nat} {fs : List Frame}, p.tables.exec = Jvm.exec → c.code = bytes → meth.sig.returnType = ret → Stand p l e R (s.setVm vm0) m args below meth c T locs cells slots →
      (∀ (f : JFrame) (acts : List Action), f.method = m → f.locked = none → f.entered = [] → (doReturn e (T.setTop f) acts v).1 = T.setFrames fs) → Steps p.tables e below (T.setTop (mkF m pc ⟨Ls⟩ St)) (T.setFrames fs)) : Wk l Z a0 EL y bytes mx ret R Q L cb sb pc Ls St := by
  intro p e s m args below meth c T vm0 k0 locs cells slots hx hby hmx hret hlk hnm hown X hS hk hZ hE hI hF hc hs
  obtain ⟨fs, hr, hrun, hended, hW⟩ := X.leaveW hS hk (v := v) (fun h => hv (hret ▸ h)) hlk
  have A : CHr Z EL vm0 T.heap T.vm T.heap := CHv.at X hZ hE hI.2.1
  have I' : Inv Z EL T.vm T.heap L := hI.later ⟨Nat.le_refl _, fun _ _ q => q⟩ A
  exact ⟨T.setFrames fs, v, locs, L, st hx hby hret X hr, hrun, hended, hQ, I', hF, endMono hW (by omega) (by omega)⟩
theorem Wk.return_ (hd : decode bytes pc = .ok (.return_, 1)) (hr : ret = none) (hQ : Q none L) : Wk l Z a0 EL y bytes mx ret R Q L cb sb pc Ls [] :=
  Wk.leave none (fun _ => rfl) hQ fun hx hby hret X hl => X.returnOut hx (hret.trans hr) (hb hby hd) hl
theorem Wk.ireturn {t : FieldType} {u : Int32} (hd : decode bytes pc = .ok (.ireturn, 1)) (hr : ret = some t) (ht : t = .int ∨ t = .boolean ∨ t = .byte ∨ t = .char ∨ t = .short) (hn : narrow t (.int u) = .int u) (hQ : Q (some (.int u)) L) : Wk l Z a0 EL y bytes mx ret R Q L cb sb pc Ls (.int u :: St) :=
  Wk.leave (some (.int u)) (fun h => by rw [hr] at h; cases h) hQ fun hx hby hret X hl => retOut X hx (hret.trans hr) hn (Or.inl ⟨rfl, ht, u, rfl⟩) (hb hby hd) hl
theorem Wk.lreturn {u : Int64} (hd : decode bytes pc = .ok (.lreturn, 1)) (hr : ret = some .long) (hQ : Q (some (.long u)) L) : Wk l Z a0 EL y bytes mx ret R Q L cb sb pc Ls (.long u :: St) :=
  Wk.leave (some (.long u)) (fun h => by rw [hr] at h; cases h) hQ fun hx hby hret X hl => retOut X hx (hret.trans hr) rfl (Or.inr (Or.inl ⟨rfl, rfl, u, rfl⟩)) (hb hby hd) hl
theorem Wk.areturn {t : FieldType} {u : Value} (hd : decode bytes pc = .ok (.areturn, 1)) (hr : ret = some t) (ht : t.isReference = true) (hn : narrow t u = u) (hu : u.isRef = true) (hQ : Q (some u) L) : Wk l Z a0 EL y bytes mx ret R Q L cb sb pc Ls (u :: St) :=
  Wk.leave (some u) (fun h => by rw [hr] at h; cases h) hQ fun hx hby hret X hl => retOut X hx (hret.trans hr) hn (Or.inr (Or.inr (Or.inr (Or.inr ⟨rfl, ht, hu⟩)))) (hb hby hd) hl
theorem Ct.of {as' : Array Value} (hp : plainFor y = true) (he : ∀ m, entryFrame m as' mx = mkF m 0 ⟨Ls⟩ []) (hE : EW Z a0 EL) (k : Wk l Z a0 EL y bytes mx ret R Q L R.cells R.slots 0 Ls []) : Ct l Z EL y bytes mx ret R as' L Q := by
  intro ws
  refine MetFree.of_bodySF hp hisR ?_
  intro p e s m args below meth c s₁ Bd hml0 hP hK
  obtain ⟨rfl, hZ, hI⟩ := hP
  have hheap : s₁.heap = s.heap := by rw [Bd.state]; rfl
  have X0 : Stand p l e R (s.setVm s.vm) m args below meth c s₁ [] 0 0 := Stand.of_body Bd
  obtain ⟨fin, v, Lc, L', h1, h2, h3, h4, h5, h6, h7⟩ := k p e s m args below meth c s₁ s.vm s.heap.size [] 0 0 Bd.exec Bd.bytes hml0 Bd.returns Bd.notSynchronized (name_of_methodNamed Bd.named Bd.method).1 (findClass_of_methodNamed Bd.named) X0 ((State.WarmedH.refl s).since _) (by rw [hheap]; exact Nat.le_refl _) hZ hE (by rw [hheap]; exact hI) (Fr.nil _) (by omega) (by omega)
  exact ⟨fin, .returned v, castTop (he m) h1, h2, h3, v, Lc, L', rfl, h4, h5, h6, h7⟩
theorem Ct.imp {as' : Array Value} (hq : ∀ v L, Q v L → Q' v L) (h : Ct l Z EL y bytes mx ret R as' L Q) : Ct l Z EL y bytes mx ret R as' L Q' := by
  intro ws p e ha hc hk s m args below hf happ hP hK
  obtain ⟨n, o, h1, h2, h3, v, Lc, L', h4, h5, h6⟩ := h ws p e ha hc hk s m args below hf happ hP hK
  exact ⟨n, o, h1, h2, h3, v, Lc, L', h4, hq _ _ h5, h6⟩
theorem Ct.perm {as' : Array Value} (hp : L.Perm L') (h : Ct l Z EL y bytes mx ret R as' L' Q) : Ct l Z EL y bytes mx ret R as' L Q := by
  intro ws p e ha hc hk s m args below hf happ hP hK
  exact h ws p e ha hc hk s m args below hf happ ⟨hP.1, hP.2.1, hP.2.2.perm hp⟩ hK
section Call
variable {y' : MethodName} {b' : ByteArray} {mx' : Nat} {ret' : Option FieldType} {rm : Room} {as' : Array Value} {W len : Nat} {h : Heap} {p : Program} {e : Env} {below : List Frame} {s : State} {args : Array Value} {vm0 : Vm}
theorem Ct.back (hC : Ct l Z EL y' b' mx' ret' rm as' L Q') (hZ : Z.Warmed39 vm0) (hE : EW Z a0 EL) (hI : Inv Z EL vm0 h L) (wc : (Jvm.Cond.code y' b' mx' ret').before a0 Z = true) (wz : (Jvm.Cond.initialized y'.cls).before a0 Z = true) (hf : rm.frames + 1 ≤ R.frames) (hl : W + (mx' + 11) + rm.locals ≤ R.locals) :
    BackS l R p e below (s.setVm vm0) args y' len W (fun A a => a = as' ∧ A.U.heap = h ∧ A.cells + rm.cells ≤ R.cells ∧ A.slots + rm.slots ≤ R.slots)
      (fun A _ v B => ∃ Lc L', Q' v L' ∧ Inv Z EL B.U.vm B.U.heap L' ∧ Fr Z.heap.size Lc ∧ B.locs = A.locs ++ Lc ∧ B.cells = A.cells + rm.cells ∧ B.slots = A.slots + rm.slots) :=
  BackS.of_freeW (bytes := b') (maxL := mx') (ret := ret') (E := fun _ _ o t Lc k n => k = rm.cells ∧ n = rm.slots ∧ Fr Z.heap.size Lc ∧ ∃ v L', o = .returned v ∧ Q' v L' ∧ Inv Z EL t.vm t.heap L') (hC []) hf hl
    (fun m meth c A a Y hp => have hU : Z.Warmed39 A.U.vm := wtrans (s := s.setVm vm0) hZ Y.warmed
      ⟨by show (Jvm.Cond.and _ .tt).before a A.U = true; rw [Cond.before_and, mv hU wc]; rfl, mv hU wc, mv hU wz, hp.2.2.1, hp.2.2.2⟩)
    (fun m meth c A a g mk Y hp => ⟨hp.1, wtrans (s := s.setVm vm0) hZ Y.warmed, by
      show Inv Z EL A.U.vm A.U.heap L
      rw [hp.2.1]; exact hI.later ⟨Nat.le_refl _, fun _ _ q => q⟩ (CHv.at Y hZ hE hI.2.1)⟩) (fun _ _ _ _ _ _ _ _ _ => trivial)
    (fun _ _ _ _ ⟨v, Lc, L', h1, h2, h3, h4, h5⟩ => ⟨Lc, _, _, h5, rfl, rfl, h4, v, L', h1, h2, h3⟩)
    (fun m meth c A a g mk v t Lc k n Y hp _ _ ⟨e1, e2, e3, v', L', e4, e5, e6⟩ => by
      cases e4; subst e1 e2
      exact ⟨Lc, L', e5, e6, e3, rfl, rfl, rfl⟩)
/-- A CALL, whichever -/
theorem Wk.call {St' : List Value} (hC : Ct l Z EL y' b' mx' ret' rm as' L Q') (wc : (Jvm.Cond.code y' b' mx' ret').before a0 Z = true) (wz : (Jvm.Cond.initialized y'.cls).before a0 Z = true) (hf : rm.frames + 1 ≤ R.frames) (hl : W + (mx' + 11) + rm.locals ≤ R.locals) (hcb : rm.cells ≤ cb) (hsb : rm.slots ≤ sb)
    (go : ∀ {p : Program} {e : Env} {s : State} {m : MethodId} {args : Array Value} {below : List Frame} {meth : Method} {c : Code} {T : State} {vm0 : Vm} {locs : List Loc} {cells slots : Nat} {Pre : Pt → Array Value → Prop} {Post : Pt → Array Value → Option Value → Pt → Prop}, p.tables.exec = Jvm.exec → c.code = bytes → c.maxLocals = mx → vm0.findClass y.cls = some m.cls → Z.Warmed39 vm0 → Inv Z EL vm0 T.heap L →
      Stand p l e R (s.setVm vm0) m args below meth c T locs cells slots → BackS l R p e below (s.setVm vm0) args y' len W Pre Post → (∀ vm₁, (s.setVm vm0).WarmedH vm₁ → Pre ⟨T.setVm vm₁, locs, cells, slots⟩ as') →
      ∃ (v : Option Value) (vm₁ : Vm) (B : Pt), (s.setVm vm0).WarmedH vm₁ ∧ Stand p l e R ((s.setVm vm0).setVm B.U.vm) m args below meth c B.U B.locs B.cells B.slots ∧ (s.setVm vm0).Since B.U.vm B.U.heap.size ∧ T.heap.size ≤ B.U.heap.size ∧ Post ⟨T.setVm vm₁, locs, cells, slots⟩ as' v B ∧ Steps p.tables e below (T.setTop (mkF m pc ⟨Ls⟩ St)) (B.U.setTop (mkF m q ⟨Ls⟩ (v.toList ++ St'))))
    (k : ∀ v L', Q' v L' → Wk l Z a0 EL y bytes mx ret R Q L' (cb - rm.cells) (sb - rm.slots) q Ls (v.toList ++ St')) : Wk l Z a0 EL y bytes mx ret R Q L cb sb pc Ls St := by
  intro p e s m args below meth c T vm0 k0 locs cells slots hx hby hmx hret hlk hnm hown X hS hk hZ hE hI hF hc hs
  obtain ⟨v, vm₁, B, -, X', hS', hgr, ⟨Lc, L', q1, q2, q3, q4, q5, q6⟩, st⟩ := go hx hby hmx hown hZ hI X (Ct.back (len := len) hC hZ hE hI wc wz hf hl) (fun vm₁ _ => ⟨rfl, rfl, by show cells + _ ≤ _; omega, by show slots + _ ≤ _; omega⟩)
  obtain ⟨U, Lx, cx, sx⟩ := B
  dsimp only [Pt.U, Pt.locs, Pt.cells, Pt.slots] at X' hS' hgr q2 q4 q5 q6 st
  subst q4 q5 q6
  obtain ⟨fin, v, Lc', L'', h1, r⟩ := k v L' q1 p e s m args below meth c U U.vm U.heap.size _ _ _ hx hby hmx hret hlk hnm (by rw [hS'.1.alike.findClass]; exact hown) X' (hS.trans hS' (Nat.le_trans hk hgr)) (Nat.le_refl _) (State.Warmed39.trans (t := s.setVm vm0) hZ hS'.1) hE q2 (hF.app q3) (by omega) (by omega)
  exact ⟨fin, v, Lc', L'', st.trans h1, r⟩
end Call
section Calls
variable {y' : MethodName} {b' : ByteArray} {mx' : Nat} {ret' : Option FieldType} {rm : Room} {i : Nat}
theorem Wk.static (argsL rest : List Value) (W : Nat) {na : Nat} (hd : decode bytes pc = .ok (.invokestatic i, 3)) (hq : pc + 3 = q) (w1 : (Jvm.Cond.methodLink y.cls i y').before a0 Z = true) (w2 : (Jvm.Cond.static y').before a0 Z = true) (wz : (Jvm.Cond.initialized y'.cls).before a0 Z = true) (wc : (Jvm.Cond.code y' b' mx' ret').before a0 Z = true) (har : XT.arity y'.desc = some na) (hy : y'.cls ≠ "java/lang/invoke/MethodHandle" ∧ y'.cls ≠ "java/lang/invoke/VarHandle")
    (hst : St = argsL.reverse ++ rest) (hna : argsL.length = na) (hW : (rest.map fun v => v.category).sum = W) (hz : Ls.length = mx) (hC : Ct l Z EL y' b' mx' ret' rm argsL.toArray L Q') (hf : rm.frames + 1 ≤ R.frames) (hl : W + (mx' + 11) + rm.locals ≤ R.locals) (hcb : rm.cells ≤ cb) (hsb : rm.slots ≤ sb)
    (k : ∀ v L', Q' v L' → Wk l Z a0 EL y bytes mx ret R Q L' (cb - rm.cells) (sb - rm.slots) q Ls (v.toList ++ rest)) : Wk l Z a0 EL y bytes mx ret R Q L cb sb pc Ls St := by
  subst hq hst
  refine Wk.call (len := 3) hC wc wz hf hl hcb hsb (fun {p e s m args below meth c T vm0 locs cells slots Pre Post} hx hby hmx hown hZ hI X hK hpre => ?_) k
  exact callSS X hx hown (mv (s := s.setVm vm0) hZ w1) (mv (s := s.setVm vm0) hZ w2) (mv (s := s.setVm vm0) hZ wz) (mv (s := s.setVm vm0) hZ wc) hy hK (g := mkF m pc ⟨Ls⟩ (argsL.reverse ++ rest)) rfl (by rw [hmx]; simpa using hz) (XT.arity_len har hna) rfl (by show 2 * 0 + _ ≤ _; rw [hW]; omega) (hb hby hd) hpre
theorem Wk.special {a : Addr} (argsL rest : List Value) (W : Nat) {na : Nat} (hd : decode bytes pc = .ok (.invokespecial i, 3)) (hq : pc + 3 = q) (hy1 : y'.name = "<init>") (w1 : (Jvm.Cond.methodLink y.cls i y').before a0 Z = true) (w2 : (Jvm.Cond.instanceMethod y').before a0 Z = true) (wz : (Jvm.Cond.initialized y'.cls).before a0 Z = true) (wc : (Jvm.Cond.code y' b' mx' none).before a0 Z = true) (har : XT.arity y'.desc = some na) (hy : y'.cls ≠ "java/lang/invoke/MethodHandle" ∧ y'.cls ≠ "java/lang/invoke/VarHandle")
    (hst : St = argsL.reverse ++ .ref a :: rest) (hna : argsL.length = na) (hW : (rest.map fun v => v.category).sum = W) (hz : Ls.length = mx) (hC : Ct l Z EL y' b' mx' none rm (.ref a :: argsL).toArray L Q') (hf : rm.frames + 1 ≤ R.frames) (hl : W + (mx' + 11) + rm.locals ≤ R.locals) (hcb : rm.cells ≤ cb) (hsb : rm.slots ≤ sb)
    (k : ∀ v L', Q' v L' → Wk l Z a0 EL y bytes mx ret R Q L' (cb - rm.cells) (sb - rm.slots) q Ls (v.toList ++ rest)) : Wk l Z a0 EL y bytes mx ret R Q L cb sb pc Ls St := by
  subst hq hst
  refine Wk.call (len := 3) hC wc wz hf hl hcb hsb (fun {p e s m args below meth c T vm0 locs cells slots Pre Post} hx hby hmx hown hZ hI X hK hpre => ?_) k
  exact X.specialBackS hx hy1 hown (mv (s := s.setVm vm0) hZ w1) (mv (s := s.setVm vm0) hZ w2) (mv (s := s.setVm vm0) hZ wc) hy hK (g := mkF m pc ⟨Ls⟩ (argsL.reverse ++ .ref a :: rest)) rfl (by rw [hmx]; simpa using hz) (Steps.refl _) (XT.arity_len har hna) rfl (by show 2 * 0 + _ ≤ _; rw [hW]; omega) (hb hby hd) hpre
theorem nfSel {y0 : MethodName} {C : String} (w : (Jvm.Cond.selects C y0 y0).before a0 Z = true) : ∀ s : State, Z.Warmed39 s.vm → NotFace s y0 := fun s hZ => notFace_of_selects (args := #[]) (mv hZ w)
theorem nfSup {y0 : MethodName} {S : String} (w : (Jvm.Cond.superclass y0.cls S).before a0 Z = true) : ∀ s : State, Z.Warmed39 s.vm → NotFace s y0 := fun s hZ => nf_super (args := #[]) (mv hZ w)
theorem nfTop {y0 : MethodName} (w : (Jvm.Cond.noSuperclass y0.cls).before a0 Z = true) : ∀ s : State, Z.Warmed39 s.vm → NotFace s y0 := fun s hZ => nf_top (args := #[]) (mv hZ w)
theorem Wk.virtual {a : Addr} {fl : Bool} {C : String} {lay : Lay} {vs : List Value} {y0 : MethodName} (argsL rest : List Value) (W : Nat) {na : Nat} (hd : decode bytes pc = .ok (.invokevirtual i, 3)) (hq : pc + 3 = q) (w1 : (Jvm.Cond.methodLink y.cls i y0).before a0 Z = true) (w2 : (Jvm.Cond.declares y0).before a0 Z = true) (w3 : (Jvm.Cond.selects C y0 y').before a0 Z = true) (w4 : (Jvm.Cond.instanceMethod y').before a0 Z = true) (wz : (Jvm.Cond.initialized y'.cls).before a0 Z = true) (wc : (Jvm.Cond.code y' b' mx' ret').before a0 Z = true)
    (har : XT.arity y0.desc = some na) (hy : y0.cls ≠ "java/lang/invoke/MethodHandle" ∧ y0.cls ≠ "java/lang/invoke/VarHandle") (nf : ∀ s : State, Z.Warmed39 s.vm → NotFace s y0) (hm : (a, fl, OB Z C lay vs) ∈ L)
    (hst : St = argsL.reverse ++ .ref a :: rest) (hna : argsL.length = na) (hW : (rest.map fun v => v.category).sum = W) (hz : Ls.length = mx) (hC : Ct l Z EL y' b' mx' ret' rm (.ref a :: argsL).toArray L Q') (hf : rm.frames + 1 ≤ R.frames) (hl : W + (mx' + 11) + rm.locals ≤ R.locals) (hcb : rm.cells ≤ cb) (hsb : rm.slots ≤ sb)
    (k : ∀ v L', Q' v L' → Wk l Z a0 EL y bytes mx ret R Q L' (cb - rm.cells) (sb - rm.slots) q Ls (v.toList ++ rest)) : Wk l Z a0 EL y bytes mx ret R Q L cb sb pc Ls St := by
  subst hq hst
  refine Wk.call (len := 3) hC wc wz hf hl hcb hsb (fun {p e s m args below meth c T vm0 locs cells slots Pre Post} hx hby hmx hown hZ hI X hK hpre => ?_) k
  obtain ⟨cl, e1, e2⟩ := hI.at_ hm
  obtain ⟨cq, kq, q1, -, q3⟩ := isOf (T := T) (s := s.setVm vm0) hZ rfl (e2.exa e1)
  exact X.virtualBackS hx hown (mv (s := s.setVm vm0) hZ w1) (mv (s := s.setVm vm0) hZ w2) (nf (s.setVm vm0) hZ) (mv (s := s.setVm vm0) hZ w3) (mv (s := s.setVm vm0) hZ w4) hy hK q1 q3 (g := mkF m pc ⟨Ls⟩ (argsL.reverse ++ .ref a :: rest)) rfl (by rw [hmx]; simpa using hz) (Steps.refl _) (XT.arity_len har hna) rfl (by show 2 * 0 + _ ≤ _; rw [hW]; omega) (hb hby hd) hpre
theorem Wk.interface {a : Addr} {fl : Bool} {C : String} {lay : Lay} {vs : List Value} {y0 : MethodName} {cnt : Nat} (argsL rest : List Value) (W : Nat) {na : Nat} (hd : decode bytes pc = .ok (.invokeinterface i cnt, 5)) (hq : pc + 5 = q) (w1 : (Jvm.Cond.methodLink y.cls i y0).before a0 Z = true) (w2 : (Jvm.Cond.declares y0).before a0 Z = true) (w5 : (Jvm.Cond.interfaceMethod y0.cls y0.cls y0.name y0.desc).before a0 Z = true) (hd5 : ((Jvm.Cond.interfaceMethod y0.cls y0.cls y0.name y0.desc).onTables && (Jvm.Cond.interfaceMethod y0.cls y0.cls y0.name y0.desc).keepsFace) = true) (w3 : (Jvm.Cond.selects C y0 y').before a0 Z = true) (w4 : (Jvm.Cond.instanceMethod y').before a0 Z = true) (w6 : (Jvm.Cond.publicMethod y').before a0 Z = true) (w7 : (Jvm.Cond.unhidden C y0.name y0.desc).before a0 Z = true) (w8 : (Jvm.Cond.castable C y0.cls).before a0 Z = true) (wz : (Jvm.Cond.initialized y'.cls).before a0 Z = true) (wc : (Jvm.Cond.code y' b' mx' ret').before a0 Z = true)
    (har : XT.arity y0.desc = some na) (hy : y0.cls ≠ "java/lang/invoke/MethodHandle" ∧ y0.cls ≠ "java/lang/invoke/VarHandle") (hm : (a, fl, OB Z C lay vs) ∈ L)
    (hst : St = argsL.reverse ++ .ref a :: rest) (hna : argsL.length = na) (hW : (rest.map fun v => v.category).sum = W) (hz : Ls.length = mx) (hC : Ct l Z EL y' b' mx' ret' rm (.ref a :: argsL).toArray L Q') (hf : rm.frames + 1 ≤ R.frames) (hl : W + (mx' + 11) + rm.locals ≤ R.locals) (hcb : rm.cells ≤ cb) (hsb : rm.slots ≤ sb)
    (k : ∀ v L', Q' v L' → Wk l Z a0 EL y bytes mx ret R Q L' (cb - rm.cells) (sb - rm.slots) q Ls (v.toList ++ rest)) : Wk l Z a0 EL y bytes mx ret R Q L cb sb pc Ls St := by
  subst hq hst
  refine Wk.call (len := 5) hC wc wz hf hl hcb hsb (fun {p e s m args below meth c T vm0 locs cells slots Pre Post} hx hby hmx hown hZ hI X hK hpre => ?_) k
  obtain ⟨cl, e1, e2⟩ := hI.at_ hm
  obtain ⟨cq, kq, q1, q2, q3⟩ := isOf (T := T) (s := s.setVm vm0) hZ rfl (e2.exa e1)
  exact X.interfaceBackS hx hown (mv (s := s.setVm vm0) hZ w1) (mv (s := s.setVm vm0) hZ w2) (mv (s := s.setVm vm0) hZ w5 hd5) (mv (s := s.setVm vm0) hZ w3) (mv (s := s.setVm vm0) hZ w4) (mv (s := s.setVm vm0) hZ w6) (mv (s := s.setVm vm0) hZ w7) (mv (s := s.setVm vm0) hZ w8) hy hK q1 q2 q3 (g := mkF m pc ⟨Ls⟩ (argsL.reverse ++ .ref a :: rest)) rfl (by rw [hmx]; simpa using hz) (Steps.refl _) (XT.arity_len har hna) rfl (by show 2 * 0 + _ ≤ _; rw [hW]; omega) (hb hby hd) hpre
end Calls
theorem kv {Q0 : Value → Store → Prop} (k : ∀ u L', Q0 u L' → Wk l Z a0 EL y bytes mx ret R Q L' cb sb q Ls (u :: rest)) : ∀ v L', RV Q0 v L' → Wk l Z a0 EL y bytes mx ret R Q L' cb sb q Ls (v.toList ++ rest) := by
  rintro _ L' ⟨u, rfl, h⟩; exact k u L' h
theorem k0 {Q0 : Store → Prop} (k : ∀ L', Q0 L' → Wk l Z a0 EL y bytes mx ret R Q L' cb sb q Ls rest) : ∀ v L', R0 Q0 v L' → Wk l Z a0 EL y bytes mx ret R Q L' cb sb q Ls (v.toList ++ rest) := by
  rintro _ L' ⟨rfl, h⟩; exact k L' h
end Rules
/-- a branch both ways -/
def cP : ClassFile.Cond → Int32 → Int32 → Prop
  | .eq, u, w => u = w
  | .ne, u, w => ¬ u = w
  | .lt, u, w => u < w
  | .ge, u, w => ¬ u < w
  | .gt, u, w => w < u
  | .le, u, w => ¬ w < u
def cneg : ClassFile.Cond → ClassFile.Cond
  | .eq => .ne
  | .ne => .eq
  | .lt => .ge
  | .ge => .lt
  | .gt => .le
  | .le => .gt
theorem icmp_of {cd : ClassFile.Cond} {u w : Int32} : (cP cd u w ∧ if_icmp.holds cd u w = true) ∨ (cP (cneg cd) u w ∧ if_icmp.holds cd u w = false) := by
  cases cd
  · by_cases h : u = w
    · exact Or.inl ⟨h, XT.ii_eq_t h⟩
    · exact Or.inr ⟨h, XT.ii_eq_f h⟩
  · by_cases h : u = w
    · exact Or.inr ⟨h, XT.ii_ne_f h⟩
    · exact Or.inl ⟨h, XT.ii_ne_t h⟩
  · by_cases h : u < w
    · exact Or.inl ⟨h, XT.ii_lt_t h⟩
    · exact Or.inr ⟨h, XT.ii_lt_f h⟩
  · by_cases h : u < w
    · exact Or.inr ⟨h, XT.ii_ge_f h⟩
    · exact Or.inl ⟨h, XT.ii_ge_t h⟩
  · by_cases h : w < u
    · exact Or.inl ⟨h, XT.ii_gt_t h⟩
    · exact Or.inr ⟨h, XT.ii_gt_f h⟩
  · by_cases h : w < u
    · exact Or.inr ⟨h, XT.ii_le_f h⟩
    · exact Or.inl ⟨h, XT.ii_le_t h⟩
theorem if_of {cd : ClassFile.Cond} {u : Int32} : (cP cd u 0 ∧ ifCond.holds cd u = true) ∨ (cP (cneg cd) u 0 ∧ ifCond.holds cd u = false) := by
  cases cd
  · by_cases h : u = 0
    · exact Or.inl ⟨h, XT.i0_eq_t h⟩
    · exact Or.inr ⟨h, XT.i0_eq_f h⟩
  · by_cases h : u = 0
    · exact Or.inr ⟨h, XT.i0_ne_f h⟩
    · exact Or.inl ⟨h, XT.i0_ne_t h⟩
  · by_cases h : u < 0
    · exact Or.inl ⟨h, XT.i0_lt_t h⟩
    · exact Or.inr ⟨h, XT.i0_lt_f h⟩
  · by_cases h : u < 0
    · exact Or.inr ⟨h, XT.i0_ge_f h⟩
    · exact Or.inl ⟨h, XT.i0_ge_t h⟩
  · by_cases h : 0 < u
    · exact Or.inl ⟨h, XT.i0_gt_t h⟩
    · exact Or.inr ⟨h, XT.i0_gt_f h⟩
  · by_cases h : 0 < u
    · exact Or.inr ⟨h, XT.i0_le_f h⟩
    · exact Or.inl ⟨h, XT.i0_le_t h⟩
section Rules2
variable {l : Launch} {Z : State} {a0 : Array Value} {EL : List (String × Nat)} {y : MethodName} {bytes : ByteArray} {mx : Nat} {ret : Option FieldType} {R : Room} {Q Q' : Option Value → Store → Prop} {L L0 L' : Store} {cb sb pc q q' : Nat} {Ls Ls' : List Slot} {St rest : List Value}
theorem Wk.icmp_s {cd : ClassFile.Cond} {u w : Int32} {o : Int} (hd : decode bytes pc = .ok (.if_icmp cd o, 3)) (ho : 0 ≤ (pc : Int) + o) (hq : ((pc : Int) + o).toNat = q) (hq' : pc + 3 = q') (k1 : cP cd u w → Wk l Z a0 EL y bytes mx ret R Q L cb sb q Ls St) (k2 : cP (cneg cd) u w → Wk l Z a0 EL y bytes mx ret R Q L cb sb q' Ls St) : Wk l Z a0 EL y bytes mx ret R Q L cb sb pc Ls (.int w :: .int u :: St) := by
  rcases icmp_of (cd := cd) (u := u) (w := w) with ⟨h, h'⟩ | ⟨h, h'⟩
  · exact Wk.icmp_t hd ho hq h' (k1 h)
  · exact Wk.icmp_f hd hq' h' (k2 h)
theorem Wk.if_s {cd : ClassFile.Cond} {u : Int32} {o : Int} (hd : decode bytes pc = .ok (.ifCond cd o, 3)) (ho : 0 ≤ (pc : Int) + o) (hq : ((pc : Int) + o).toNat = q) (hq' : pc + 3 = q') (k1 : cP cd u 0 → Wk l Z a0 EL y bytes mx ret R Q L cb sb q Ls St) (k2 : cP (cneg cd) u 0 → Wk l Z a0 EL y bytes mx ret R Q L cb sb q' Ls St) : Wk l Z a0 EL y bytes mx ret R Q L cb sb pc Ls (.int u :: St) := by
  rcases if_of (cd := cd) (u := u) with ⟨h, h'⟩ | ⟨h, h'⟩
  · exact Wk.if_t hd ho hq h' (k1 h)
  · exact Wk.if_f hd hq' h' (k2 h)
end Rules2
theorem Wk.know {l : Launch} {Z : State} {a0 : Array Value} {EL : List (String × Nat)} {y : MethodName} {bytes : ByteArray} {mx : Nat} {ret : Option FieldType} {R : Room} {Q : Option Value → Store → Prop} {L : Store} {cb sb pc : Nat} {Ls : List Slot} {St : List Value} {P : Prop} (hp : ∀ vm h, Inv Z EL vm h L → P) (k : P → Wk l Z a0 EL y bytes mx ret R Q L cb sb pc Ls St) : Wk l Z a0 EL y bytes mx ret R Q L cb sb pc Ls St := by
  intro p e s m args below meth c T vm0 k0 locs cells slots hx hby hmx hret hlk hnm hown X hS hk hZ hE hI hF hc hs
  exact k (hp _ _ hI) p e s m args below meth c T vm0 k0 locs cells slots hx hby hmx hret hlk hnm hown X hS hk hZ hE hI hF hc hs
theorem Inv.sameObj {Z : State} {EL : List (String × Nat)} {vm : Vm} {h : Heap} {L : Store} {a : Addr} {f f' : Bool} {C C' : String} {lay : Lay} {vs vs' : List Value} {j : Nat} {g : String × String × String} {v v' : Value} (I : Inv Z EL vm h L) (h1 : (a, f, OB Z C lay vs) ∈ L) (h2 : (a, f', OB Z C' lay vs') ∈ L) (hj : lay[j]? = some g) (hv : vs[j]? = some v) (hv' : vs'[j]? = some v') : v = v' := by
  obtain ⟨c, e1, e2⟩ := I.at_ h1
  obtain ⟨c', g1, g2⟩ := I.at_ h2
  cases e1.symm.trans g1
  obtain ⟨_, _, _, fi, x1, -, -, -, -, x6⟩ := e2.2 j g v hj hv
  obtain ⟨_, _, _, fi', y1, -, -, -, -, y6⟩ := g2.2 j g v' hj hv'
  cases x1.symm.trans y1
  exact Option.some.inj (x6.symm.trans y6)
theorem Inv.sameArr {Z : State} {EL : List (String × Nat)} {vm : Vm} {h : Heap} {L : Store} {a : Addr} {f f' : Bool} {ty ty' : FieldType} {vs vs' : List Value} (I : Inv Z EL vm h L) (h1 : (a, f, AR Z ty vs) ∈ L) (h2 : (a, f', AR Z ty' vs') ∈ L) : vs = vs' := by
  obtain ⟨c, e1, e2⟩ := I.at_ h1
  obtain ⟨c', g1, g2⟩ := I.at_ h2
  cases e1.symm.trans g1
  exact e2.2.2.1.symm.trans g2.2.2.1
theorem map_int_inj {xs ys : List Int32} (h : xs.map Value.int = ys.map Value.int) : xs = ys := (List.map_inj_right (fun a b e => by injection e)).mp h
theorem efOf {m : MethodId} {args : Array Value} {n : Nat} {Ls : List Slot} (h : Jvm.Sym.laidSlots args.toList ++ List.replicate (n - (Jvm.Sym.laidSlots args.toList).length) .unset = Ls) : entryFrame m args n = mkF m 0 ⟨Ls⟩ [] := by
  have : argsToLocals args n = ⟨Ls⟩ := Array.toList_inj.mp (by rw [Jvm.Sym.argsToLocals_toList]; exact h)
  unfold entryFrame
  rw [this]
theorem fitO {c : String} {v : Value} (h : v.isRef = true) : fits (.object c) v = true := by cases v <;> first | rfl | exact Bool.noConfusion h
theorem fitA {c : FieldType} {v : Value} (h : v.isRef = true) : fits (.array c) v = true := by cases v <;> first | rfl | exact Bool.noConfusion h
theorem narO {c : String} {v : Value} : narrow (.object c) v = v := by cases v <;> rfl
theorem narA {c : FieldType} {v : Value} : narrow (.array c) v = v := by cases v <;> rfl
theorem staOf {Z : State} {args a0 : Array Value} {C n d K : String} (h : (Jvm.Cond.exactly (Term.static C n d) K).value args Z none Z [] = some true) (hi : (Jvm.Cond.initialized C).before a0 Z = true) (hl : (Jvm.Cond.laysStatic C n d).before a0 Z = true) : ∃ a : Addr, Sta Z Z.heap C n d (.ref a) ∧ Exa Z Z.heap a K := by
  obtain ⟨a, ev⟩ := exa_v h
  exact ⟨a, Sta.start (args := args) ev (Or.inr ⟨hi, hl⟩), Exa.start ev h⟩
theorem compact {Z : State} {args : Array Value} (h1 : (Jvm.Cond.initializedFor "java/lang/String" "COMPACT_STRINGS" "Z").before args Z = true) (h2 : (Jvm.Cond.isInt (Term.static "java/lang/String" "COMPACT_STRINGS" "Z")).before args Z = true) (h3 : (Jvm.Cond.not (Jvm.Cond.eq (Term.static "java/lang/String" "COMPACT_STRINGS" "Z") (.int 0))).before args Z = true) : ∃ z, z ≠ (0 : Int32) ∧ Sta Z Z.heap "java/lang/String" "COMPACT_STRINGS" "Z" (.int z) := by
  obtain ⟨z, ev⟩ := is_v (Cond.before_iff.mp h2)
  refine ⟨z, fun e => ?_, Sta.start (args := args) ev (Or.inl h1)⟩
  have h := not_v (Cond.before_iff.mp h3)
  rw [eq_i ev (Term.int_eval 0) (by rw [e])] at h
  cases h
theorem staI {Z : State} {args : Array Value} {C n d : String} {z : Int32} (h1 : (Jvm.Cond.initializedFor C n d).before args Z = true) (h2 : (Jvm.Cond.eq (Term.static C n d) (.int z)).before args Z = true) : Sta Z Z.heap C n d (.int z) := by
  have h := Cond.before_iff.mp h2
  obtain ⟨x, y, ex, ey, kx, -⟩ := cmp_v (Or.inl h)
  cases (Term.int_eval z).symm.trans ey
  have e : x = .int z := by
    have q := h
    cases x with
    | int w =>
      simp only [Jvm.Cond.value, ex, Term.int_eval, Option.some.injEq, decide_eq_true_eq] at q
      rw [q]
    | long _ => obtain ⟨_, kx⟩ := kx; cases kx
    | float _ => obtain ⟨_, kx⟩ := kx; cases kx
    | double _ => obtain ⟨_, kx⟩ := kx; cases kx
    | _ => exact Bool.noConfusion kx.2
  subst e
  exact Sta.start (args := args) ex (Or.inl h1)
theorem nar8 (x : Int32) : nar .byte x.toInt8.toInt32 = x.toInt8.toInt32 := by simp [nar]
/-! numbers -/
theorem nchar_mask (x : Int32) : nar .char (x &&& 255) = x &&& 255 := i2c_mask x
theorem mask_lat (x : Int32) : 0 ≤ (x &&& 255).toInt ∧ (x &&& 255).toInt < 256 := by
  have := c_and x 255 (by decide)
  have e : (255 : Int32).toInt = 255 := by decide
  omega
theorem remR (x : Int32) (k : Int32) (d : Int) (hx : 0 ≤ x.toInt) (hd : k.toInt = d) (hk : 0 < d) : 0 ≤ (x % k).toInt ∧ (x % k).toInt < d := by
  have := (c_iremV x k).1 hx (by omega)
  omega
theorem maskR (x : Int32) : 0 ≤ (x &&& 2147483647).toInt := (c_and x 2147483647 (by decide)).1
theorem lit32 {x : Int32} {n : Int} (h : x.toInt = n) (m : Int32) (hm : m.toInt = n) : x = m := Int32.toInt_inj.mp (h.trans hm.symm)
theorem rem4 (x : Int32) : (x &&& 2147483647) % 4 = 0 ∨ (x &&& 2147483647) % 4 = 1 ∨ (x &&& 2147483647) % 4 = 2 ∨ (x &&& 2147483647) % 4 = 3 := by
  have h := remR (x &&& 2147483647) 4 4 (maskR x) (by decide) (by decide)
  generalize (x &&& 2147483647) % 4 = r at *
  have h4 : r.toInt = 0 ∨ r.toInt = 1 ∨ r.toInt = 2 ∨ r.toInt = 3 := by omega
  rcases h4 with h | h | h | h
  · exact Or.inl (lit32 h 0 (by decide))
  · exact Or.inr (Or.inl (lit32 h 1 (by decide)))
  · exact Or.inr (Or.inr (Or.inl (lit32 h 2 (by decide))))
  · exact Or.inr (Or.inr (Or.inr (lit32 h 3 (by decide))))
theorem n32 {n : Nat} (h : n < 2 ^ 31) : n.toInt32.toInt = n := len_toInt h
theorem n32_nn {n : Nat} (h : n < 2 ^ 31) : ¬ n.toInt32 < 0 := by rw [Int32.lt_iff_toInt_lt, n32 h]; show ¬ (n : Int) < 0; omega
theorem n32_nat {n : Nat} (h : n < 2 ^ 31) : n.toInt32.toNatClampNeg = n := by simp only [Int32.toNatClampNeg, n32 h]; rfl
theorem n32_lt {i n : Nat} (hi : i < 2 ^ 31) (hn : n < 2 ^ 31) : i.toInt32 < n.toInt32 ↔ i < n := by rw [Int32.lt_iff_toInt_lt, n32 hi, n32 hn]; omega
theorem n32_inj {i n : Nat} (hi : i < 2 ^ 31) (hn : n < 2 ^ 31) : i.toInt32 = n.toInt32 ↔ i = n := by rw [← Int32.toInt_inj, n32 hi, n32 hn]; omega
theorem n32_succ (i : Nat) : i.toInt32 + 1 = (i + 1).toInt32 := (Int32.ofNat_add i 1).symm
end Jvm.OwnW
namespace Jvm.OwnW
open Jvm Jvm.ClassFile Sem Op Lib Jvm.Free Jvm.Stand Jvm.LawKit Jvm.RoadKit
theorem Inv.keep {Z : State} {EL : List (String × Nat)} {vm : Vm} {h h' : Heap} {L : Store} {b : Addr} {P P' : Cell → Prop} {c : Cell} (I : Inv Z EL vm h ((b, true, P) :: L)) (K : Keep h h' [b]) (hc : h'[b]? = some c) (hP : P' c) : Inv Z EL vm h' ((b, true, P') :: L) := by
  obtain ⟨h1, h2, h3, h4, h5⟩ := I
  have hs := (h4 _ (List.mem_cons_self ..) rfl)
  have hsafe : ∀ x ∈ [b], Safe Z EL vm h x := fun x hx => by cases List.mem_singleton.mp hx; exact hs.2
  rw [List.pairwise_cons] at h5
  refine ⟨⟨Nat.le_trans h1.1 K.1, fun x c q => K.2.1 x c (h1.2 x c q) fun hx => ?_⟩, h2.keep K hsafe, fun o ho => ?_, fun o ho q => ?_, List.pairwise_cons.mpr ⟨fun o ho q => h5.1 o ho q, h5.2⟩⟩
  · cases List.mem_singleton.mp hx
    exact absurd (Array.getElem?_eq_some_iff.mp q).1 (Nat.not_lt.mpr hs.1)
  · rcases List.mem_cons.mp ho with rfl | ho
    · exact ⟨c, hc, hP⟩
    · obtain ⟨c1, q1, q2⟩ := h3 o (List.mem_cons_of_mem _ ho)
      exact ⟨c1, K.2.1 _ _ q1 fun hx => h5.1 o ho (Or.inl rfl) (List.mem_singleton.mp hx).symm, q2⟩
  · rcases List.mem_cons.mp ho with rfl | ho
    · exact ⟨hs.1, Safe.keep K hsafe h2 hs.2⟩
    · have q2 := h4 o (List.mem_cons_of_mem _ ho) q
      exact ⟨q2.1, Safe.keep K hsafe h2 q2.2⟩
theorem arv_of_ar {Z : State} {h : Heap} {a : Addr} {ty : FieldType} {vs : List Value} {c : Cell} (d : Value) (hc : h[a]? = some c) (A : AR Z ty vs c) (hf : ∀ v ∈ vs, fits ty v = true) : Arv Z h a c.cls ty vs.length.toInt32 vs d := by
  refine ⟨c, A.arr hc, rfl, by rw [A.size, n32_nat A.2.2.2], n32_nn A.2.2.2, fun k hk => ?_, fun i hi => ?_⟩
  · rw [A.size] at hk
    rw [A.get (List.getElem?_eq_getElem hk), List.getD_eq_getElem?_getD, List.getElem?_eq_getElem hk]; rfl
  · rw [A.size] at hi
    rw [List.getD_eq_getElem?_getD, List.getElem?_eq_getElem hi]
    exact hf _ (List.getElem_mem hi)
theorem range_take {vs : List Value} {s n : Nat} {d : Value} (h : s + n ≤ vs.length) : ((List.range n).map fun i => vs.getD (s + i) d) = (vs.drop s).take n := by
  apply List.ext_getElem
  · simp; omega
  · intro i h1 h2
    simp only [List.length_map, List.length_range] at h1
    have : s + i < vs.length := by omega
    simp [List.getD_eq_getElem?_getD, List.getElem?_eq_getElem this]
section Rules4
variable {l : Launch} {Z : State} {a0 : Array Value} {EL : List (String × Nat)} {y : MethodName} {bytes : ByteArray} {mx : Nat} {ret : Option FieldType} {R : Room} {Q Q' : Option Value → Store → Prop} {L L0 L' : Store} {cb sb pc q q' : Nat} {Ls Ls' : List Slot} {St rest : List Value}
/-- System.arraycopy between two byte arrays -/
theorem Wk.arraycopyB {i : Nat} (W sN dN nN : Nat) (vs' : List Value) {sp dp nn : Int32} {a b : Addr} {fa : Bool} {va vd : List Value} (hd : decode bytes pc = .ok (.invokestatic i, 3)) (hq : pc + 3 = q) (w1 : (Jvm.Cond.methodLink y.cls i Jvm.Stand.acN).before a0 Z = true) (w2 : (Jvm.Cond.native Jvm.Stand.acN).before a0 Z = true) (w3 : (Jvm.Cond.static Jvm.Stand.acN).before a0 Z = true) (w4 : (Jvm.Cond.initialized "java/lang/System").before a0 Z = true)
    (hm : Ex L (b, true, AR Z .byte vd) L0) (ha : (a, fa, AR Z .byte va) ∈ L0) (hfa : ∀ v ∈ va, fits .byte v = true) (hfd : ∀ v ∈ vd, fits .byte v = true) (h1 : ¬ sp < 0 ∧ sp.toNatClampNeg = sN) (h2 : ¬ dp < 0 ∧ dp.toNatClampNeg = dN) (h3 : ¬ nn < 0 ∧ nn.toNatClampNeg = nN) (h4 : sN + nN ≤ va.length) (h5 : dN + nN ≤ vd.length) (hv : vd.take dN ++ (va.drop sN).take nN ++ vd.drop (dN + nN) = vs')
    (hz : Ls.length = mx) (hf : 1 ≤ R.frames) (hW : (St.map fun v => v.category).sum = W) (hlo : W + (nativeFrameWords "java/lang/System" "arraycopy" 5 + 11) ≤ R.locals) (k : Wk l Z a0 EL y bytes mx ret R Q ((b, true, AR Z .byte vs') :: L0) cb sb q Ls St) : Wk l Z a0 EL y bytes mx ret R Q L cb sb pc Ls (.int nn :: .int dp :: .ref b :: .int sp :: .ref a :: St) := by
  subst hq hv
  obtain ⟨h1, rfl⟩ := h1
  obtain ⟨h2, rfl⟩ := h2
  obtain ⟨h3, rfl⟩ := h3
  refine Wk.pull hm ?_
  intro p e s m args below meth c T vm0 k0 locs cells slots hx hby hmx hret hlk hnm hown X hS hk hZ hE hI hF hc hs
  obtain ⟨cd, d1, d2⟩ := hI.at_ (List.mem_cons_self ..)
  obtain ⟨cs, s1, s2⟩ := hI.at_ (List.mem_cons_of_mem _ ha)
  have A := arv_of_ar (.int 0) s1 s2 hfa
  have B := arv_of_ar (.int 0) d1 d2 hfd
  have la := n32_nat s2.2.2.2
  have ld := n32_nat d2.2.2.2
  obtain ⟨T', h', L2, X', rfl, N, K, B', st⟩ := cpA X hx hZ hown w1 w2 w3 w4 rfl A B (Or.inl ⟨rfl, rfl⟩) h1 h2 h3 (by rw [la]; exact h4) (by rw [ld]; exact h5) (range_take h4).symm h5 hF (hI.2.2.2.1 _ (List.mem_cons_self ..) rfl).1 (g := mkF m pc ⟨Ls⟩ (.int nn :: .int dp :: .ref b :: .int sp :: .ref a :: St)) rfl (by rw [hmx]; simpa using hz) rfl (hb hby hd) hf (W := W) (by show 2 * 0 + _ ≤ _; rw [hW]; omega) hlo
  obtain ⟨c', e1, e2⟩ := ar_of_arv B' (by rw [ld]; simp; omega)
  obtain ⟨fin, v, Lc, L', q1, r⟩ := k p e s m args below meth c T' vm0 k0 L2 cells slots hx hby hmx hret hlk hnm hown X' hS (Nat.le_trans hk K.1) hZ hE (hI.keep K e1 e2) N hc hs
  exact ⟨fin, v, Lc, L', st _ q1, r⟩
end Rules4
end Jvm.OwnW
namespace Jvm.Pilot.@@N@@
open Jvm Jvm.ClassFile Sem Op Lib Jvm.Free Jvm.Stand Jvm.LawKit Jvm.RoadKit Jvm.OwnW Bundle Jvm.Pilot.@@N@@.Jvm.D
abbrev EL0 : List (String × Nat) := consts_1
theorem wS {Z : State} {a0 : Array Value} (hw : ∀ d ∈ tables_1, d.before a0 Z = true) : ∀ a ∈ Bundle.stringAtoms, a.before a0 Z = true := by
  intro a ha
  simp only [Bundle.stringAtoms, Bundle.sN, List.mem_cons, List.not_mem_nil, or_false] at ha
  rcases ha with rfl | rfl | rfl | rfl | rfl | rfl | rfl
  · exact (hw _ (List.mem_of_getElem? (i := 4) rfl))
  · exact (hw _ (List.mem_of_getElem? (i := 3) rfl))
  · exact (hw _ (List.mem_of_getElem? (i := 16) rfl))
  · exact (hw _ (List.mem_of_getElem? (i := 17) rfl))
  · exact (hw _ (List.mem_of_getElem? (i := 18) rfl))
  · exact (hw _ (List.mem_of_getElem? (i := 19) rfl))
  · exact (hw _ (List.mem_of_getElem? (i := 20) rfl))
theorem d0_3 : decode jdk_52_method_21_code 3 = .ok (.iload 5, 2) := by decide +kernel
theorem d0_5 : decode jdk_52_method_21_code 5 = .ok (.iload 4, 2) := by decide +kernel
theorem d0_7 : decode jdk_52_method_21_code 7 = .ok (.if_icmp .ge 37, 3) := by decide +kernel
theorem d0_44 : decode jdk_52_method_21_code 44 = .ok (.iload 4, 2) := by decide +kernel
theorem d0_46 : decode jdk_52_method_21_code 46 = .ok (.ireturn, 1) := by decide +kernel
theorem d0_10 : decode jdk_52_method_21_code 10 = .ok (.aload_n 0, 1) := by decide +kernel
theorem d0_11 : decode jdk_52_method_21_code 11 = .ok (.iload_n 1, 1) := by decide +kernel
theorem d0_12 : decode jdk_52_method_21_code 12 = .ok (.caload, 1) := by decide +kernel
theorem d0_13 : decode jdk_52_method_21_code 13 = .ok (.istore 6, 2) := by decide +kernel
theorem d0_15 : decode jdk_52_method_21_code 15 = .ok (.iload 6, 2) := by decide +kernel
theorem d0_17 : decode jdk_52_method_21_code 17 = .ok (.sipush 255, 3) := by decide +kernel
theorem d0_20 : decode jdk_52_method_21_code 20 = .ok (.if_icmp .le 6, 3) := by decide +kernel
theorem d0_26 : decode jdk_52_method_21_code 26 = .ok (.aload_n 2, 1) := by decide +kernel
theorem d0_27 : decode jdk_52_method_21_code 27 = .ok (.iload_n 3, 1) := by decide +kernel
theorem d0_28 : decode jdk_52_method_21_code 28 = .ok (.iload 6, 2) := by decide +kernel
theorem d0_30 : decode jdk_52_method_21_code 30 = .ok (.i2b, 1) := by decide +kernel
theorem d0_31 : decode jdk_52_method_21_code 31 = .ok (.bastore, 1) := by decide +kernel
theorem d0_32 : decode jdk_52_method_21_code 32 = .ok (.iinc 1 1, 3) := by decide +kernel
theorem d0_35 : decode jdk_52_method_21_code 35 = .ok (.iinc 3 1, 3) := by decide +kernel
theorem d0_38 : decode jdk_52_method_21_code 38 = .ok (.iinc 5 1, 3) := by decide +kernel
theorem d0_41 : decode jdk_52_method_21_code 41 = .ok (.goto (-38), 3) := by decide +kernel
theorem ef_ririi_7 (m : MethodId) (x0 : Addr) (x1 : Int32) (x2 : Addr) (x3 : Int32) (x4 : Int32) : entryFrame m #[(.ref x0), (.int x1), (.ref x2), (.int x3), (.int x4)] 7 = mkF m 0 ⟨[.val (.ref x0), .val (.int x1), .val (.ref x2), .val (.int x3), .val (.int x4), .unset, .unset]⟩ [] := by exact efOf rfl
theorem pn_0 : plainName "java/lang/StringUTF16" = true := by first | (simp [plainName, overriddenIn]; done) | decide +kernel
theorem d0_0 : decode jdk_52_method_21_code 0 = .ok (.iconst 0, 1) := by decide +kernel
theorem d0_1 : decode jdk_52_method_21_code 1 = .ok (.istore 5, 2) := by decide +kernel
theorem ef_ri_2 (m : MethodId) (x0 : Addr) (x1 : Int32) : entryFrame m #[(.ref x0), (.int x1)] 2 = mkF m 0 ⟨[.val (.ref x0), .val (.int x1)]⟩ [] := by exact efOf rfl
theorem d1_0 : decode jdk_52_method_15_code 0 = .ok (.iload_n 1, 1) := by decide +kernel
theorem d1_1 : decode jdk_52_method_15_code 1 = .ok (.aload_n 0, 1) := by decide +kernel
theorem d1_2 : decode jdk_52_method_15_code 2 = .ok (.arraylength, 1) := by decide +kernel
theorem d1_3 : decode jdk_52_method_15_code 3 = .ok (.isub, 1) := by decide +kernel
theorem d1_4 : decode jdk_52_method_15_code 4 = .ok (.bipush 31, 2) := by decide +kernel
theorem d1_6 : decode jdk_52_method_15_code 6 = .ok (.iushr, 1) := by decide +kernel
theorem d1_7 : decode jdk_52_method_15_code 7 = .ok (.i2b, 1) := by decide +kernel
theorem d1_8 : decode jdk_52_method_15_code 8 = .ok (.ireturn, 1) := by decide +kernel
theorem ef_rii_6 (m : MethodId) (x0 : Addr) (x1 : Int32) (x2 : Int32) : entryFrame m #[(.ref x0), (.int x1), (.int x2)] 6 = mkF m 0 ⟨[.val (.ref x0), .val (.int x1), .val (.int x2), .unset, .unset, .unset]⟩ [] := by exact efOf rfl
theorem d2_0 : decode jdk_52_method_16_code 0 = .ok (.iload_n 2, 1) := by decide +kernel
theorem d2_1 : decode jdk_52_method_16_code 1 = .ok (.newarray .byte, 2) := by decide +kernel
theorem d2_3 : decode jdk_52_method_16_code 3 = .ok (.astore_n 3, 1) := by decide +kernel
theorem d2_4 : decode jdk_52_method_16_code 4 = .ok (.aload_n 0, 1) := by decide +kernel
theorem d2_5 : decode jdk_52_method_16_code 5 = .ok (.iload_n 1, 1) := by decide +kernel
theorem d2_6 : decode jdk_52_method_16_code 6 = .ok (.aload_n 3, 1) := by decide +kernel
theorem d2_7 : decode jdk_52_method_16_code 7 = .ok (.iconst 0, 1) := by decide +kernel
theorem d2_8 : decode jdk_52_method_16_code 8 = .ok (.iload_n 2, 1) := by decide +kernel
theorem d2_9 : decode jdk_52_method_16_code 9 = .ok (.invokestatic 115, 3) := by decide +kernel
theorem ar_0 : XT.arity "([CI[BII)I" = some 5 := by decide +kernel
theorem d2_12 : decode jdk_52_method_16_code 12 = .ok (.istore 4, 2) := by decide +kernel
theorem d2_14 : decode jdk_52_method_16_code 14 = .ok (.iload 4, 2) := by decide +kernel
theorem d2_16 : decode jdk_52_method_16_code 16 = .ok (.iload_n 2, 1) := by decide +kernel
theorem d2_17 : decode jdk_52_method_16_code 17 = .ok (.if_icmp .eq 40, 3) := by decide +kernel
theorem d2_57 : decode jdk_52_method_16_code 57 = .ok (.aload_n 3, 1) := by decide +kernel
theorem d2_58 : decode jdk_52_method_16_code 58 = .ok (.areturn, 1) := by decide +kernel
theorem ef_rriin_6 (m : MethodId) (x0 : Addr) (x1 : Addr) (x2 : Int32) (x3 : Int32) : entryFrame m #[(.ref x0), (.ref x1), (.int x2), (.int x3), .null] 6 = mkF m 0 ⟨[.val (.ref x0), .val (.ref x1), .val (.int x2), .val (.int x3), .val .null, .unset]⟩ [] := by exact efOf rfl
theorem pn_1 : plainName "java/lang/String" = true := by first | (simp [plainName, overriddenIn]; done) | decide +kernel
theorem d3_0 : decode jdk_42_method_149_code 0 = .ok (.aload_n 0, 1) := by decide +kernel
theorem d3_1 : decode jdk_42_method_149_code 1 = .ok (.invokespecial 1, 3) := by decide +kernel
theorem d3_4 : decode jdk_42_method_149_code 4 = .ok (.iload_n 3, 1) := by decide +kernel
theorem d3_5 : decode jdk_42_method_149_code 5 = .ok (.ifCond .ne 22, 3) := by decide +kernel
theorem d3_27 : decode jdk_42_method_149_code 27 = .ok (.getstatic 38, 3) := by decide +kernel
theorem d3_30 : decode jdk_42_method_149_code 30 = .ok (.ifCond .eq 28, 3) := by decide +kernel
theorem d3_33 : decode jdk_42_method_149_code 33 = .ok (.aload_n 1, 1) := by decide +kernel
theorem d3_34 : decode jdk_42_method_149_code 34 = .ok (.iload_n 2, 1) := by decide +kernel
theorem d3_35 : decode jdk_42_method_149_code 35 = .ok (.iload_n 3, 1) := by decide +kernel
theorem d3_36 : decode jdk_42_method_149_code 36 = .ok (.invokestatic 177, 3) := by decide +kernel
theorem ar_1 : XT.arity "([CII)[B" = some 3 := by decide +kernel
theorem d3_39 : decode jdk_42_method_149_code 39 = .ok (.astore 5, 2) := by decide +kernel
theorem d3_41 : decode jdk_42_method_149_code 41 = .ok (.aload_n 0, 1) := by decide +kernel
theorem d3_42 : decode jdk_42_method_149_code 42 = .ok (.aload 5, 2) := by decide +kernel
theorem d3_44 : decode jdk_42_method_149_code 44 = .ok (.iload_n 3, 1) := by decide +kernel
theorem d3_45 : decode jdk_42_method_149_code 45 = .ok (.invokestatic 47, 3) := by decide +kernel
theorem ar_2 : XT.arity "([BI)B" = some 2 := by decide +kernel
theorem d3_48 : decode jdk_42_method_149_code 48 = .ok (.putfield 15, 3) := by decide +kernel
theorem d3_51 : decode jdk_42_method_149_code 51 = .ok (.aload_n 0, 1) := by decide +kernel
theorem d3_52 : decode jdk_42_method_149_code 52 = .ok (.aload 5, 2) := by decide +kernel
theorem d3_54 : decode jdk_42_method_149_code 54 = .ok (.putfield 9, 3) := by decide +kernel
theorem d3_57 : decode jdk_42_method_149_code 57 = .ok (.return_, 1) := by decide +kernel
theorem ef_rr_2 (m : MethodId) (x0 : Addr) (x1 : Addr) : entryFrame m #[(.ref x0), (.ref x1)] 2 = mkF m 0 ⟨[.val (.ref x0), .val (.ref x1)]⟩ [] := by exact efOf rfl
theorem d4_0 : decode jdk_42_method_3_code 0 = .ok (.aload_n 0, 1) := by decide +kernel
theorem d4_1 : decode jdk_42_method_3_code 1 = .ok (.aload_n 1, 1) := by decide +kernel
theorem d4_2 : decode jdk_42_method_3_code 2 = .ok (.iconst 0, 1) := by decide +kernel
theorem d4_3 : decode jdk_42_method_3_code 3 = .ok (.aload_n 1, 1) := by decide +kernel
theorem d4_4 : decode jdk_42_method_3_code 4 = .ok (.arraylength, 1) := by decide +kernel
theorem d4_5 : decode jdk_42_method_3_code 5 = .ok (.aconst_null, 1) := by decide +kernel
theorem d4_6 : decode jdk_42_method_3_code 6 = .ok (.invokespecial 27, 3) := by decide +kernel
theorem ar_3 : XT.arity "([CIILjava/lang/Void;)V" = some 4 := by decide +kernel
theorem d4_9 : decode jdk_42_method_3_code 9 = .ok (.return_, 1) := by decide +kernel
theorem d3_8 : decode jdk_42_method_149_code 8 = .ok (.aload_n 0, 1) := by decide +kernel
theorem d3_9 : decode jdk_42_method_149_code 9 = .ok (.ldc 7, 2) := by decide +kernel
theorem d3_11 : decode jdk_42_method_149_code 11 = .ok (.getfield 9, 3) := by decide +kernel
theorem d3_14 : decode jdk_42_method_149_code 14 = .ok (.putfield 9, 3) := by decide +kernel
theorem d3_17 : decode jdk_42_method_149_code 17 = .ok (.aload_n 0, 1) := by decide +kernel
theorem d3_18 : decode jdk_42_method_149_code 18 = .ok (.ldc 7, 2) := by decide +kernel
theorem d3_20 : decode jdk_42_method_149_code 20 = .ok (.getfield 15, 3) := by decide +kernel
theorem d3_23 : decode jdk_42_method_149_code 23 = .ok (.putfield 15, 3) := by decide +kernel
theorem d3_26 : decode jdk_42_method_149_code 26 = .ok (.return_, 1) := by decide +kernel
theorem ef_r_1 (m : MethodId) (x0 : Addr) : entryFrame m #[(.ref x0)] 1 = mkF m 0 ⟨[.val (.ref x0)]⟩ [] := by exact efOf rfl
theorem pn_2 : plainName "java/lang/Record" = true := by first | (simp [plainName, overriddenIn]; done) | decide +kernel
theorem d5_0 : decode jdk_30_method_1_code 0 = .ok (.aload_n 0, 1) := by decide +kernel
theorem d5_1 : decode jdk_30_method_1_code 1 = .ok (.invokespecial 1, 3) := by decide +kernel
theorem d5_4 : decode jdk_30_method_1_code 4 = .ok (.return_, 1) := by decide +kernel
theorem pn_3 : plainName "java/util/Objects" = true := by first | (simp [plainName, overriddenIn]; done) | decide +kernel
theorem d6_0 : decode jdk_31_method_11_code 0 = .ok (.aload_n 0, 1) := by decide +kernel
theorem d6_1 : decode jdk_31_method_11_code 1 = .ok (.ifnonnull 12, 3) := by decide +kernel
theorem d6_13 : decode jdk_31_method_11_code 13 = .ok (.aload_n 0, 1) := by decide +kernel
theorem d6_14 : decode jdk_31_method_11_code 14 = .ok (.areturn, 1) := by decide +kernel
theorem ef_rrrnvrn_7 (m : MethodId) (x0 : Addr) (x1 : Addr) (x2 : Addr) (x4 : Value) (h4 : x4.isRef = true) (x5 : Addr) : entryFrame m #[(.ref x0), (.ref x1), (.ref x2), .null, x4, (.ref x5), .null] 7 = mkF m 0 ⟨[.val (.ref x0), .val (.ref x1), .val (.ref x2), .val .null, .val x4, .val (.ref x5), .val .null]⟩ [] := by rcases XT.refc h4 with rfl | ⟨_, rfl⟩ <;> exact efOf rfl
theorem pn_4 : plainName "com/example/tierwright/tierwright/InstrumentKind" = true := by first | (simp [plainName, overriddenIn]; done) | decide +kernel
theorem d7_0 : decode prog_24_method_1_code 0 = .ok (.aload_n 0, 1) := by decide +kernel
theorem d7_1 : decode prog_24_method_1_code 1 = .ok (.invokespecial 1, 3) := by decide +kernel
theorem ar_4 : XT.arity "()V" = some 0 := by decide +kernel
theorem d7_4 : decode prog_24_method_1_code 4 = .ok (.aload_n 1, 1) := by decide +kernel
theorem d7_5 : decode prog_24_method_1_code 5 = .ok (.ldc 7, 2) := by decide +kernel
theorem d7_7 : decode prog_24_method_1_code 7 = .ok (.invokestatic 9, 3) := by decide +kernel
theorem ar_5 : XT.arity "(Ljava/lang/Object;Ljava/lang/String;)Ljava/lang/Object;" = some 2 := by decide +kernel
theorem d7_10 : decode prog_24_method_1_code 10 = .ok (.pop, 1) := by decide +kernel
theorem d7_11 : decode prog_24_method_1_code 11 = .ok (.aload_n 2, 1) := by decide +kernel
theorem d7_12 : decode prog_24_method_1_code 12 = .ok (.ldc 15, 2) := by decide +kernel
theorem d7_14 : decode prog_24_method_1_code 14 = .ok (.invokestatic 9, 3) := by decide +kernel
theorem d7_17 : decode prog_24_method_1_code 17 = .ok (.pop, 1) := by decide +kernel
theorem d7_18 : decode prog_24_method_1_code 18 = .ok (.aload 5, 2) := by decide +kernel
theorem d7_20 : decode prog_24_method_1_code 20 = .ok (.ldc 17, 2) := by decide +kernel
theorem d7_22 : decode prog_24_method_1_code 22 = .ok (.invokestatic 9, 3) := by decide +kernel
theorem d7_25 : decode prog_24_method_1_code 25 = .ok (.pop, 1) := by decide +kernel
theorem d7_26 : decode prog_24_method_1_code 26 = .ok (.aload_n 0, 1) := by decide +kernel
theorem d7_27 : decode prog_24_method_1_code 27 = .ok (.aload_n 1, 1) := by decide +kernel
theorem d7_28 : decode prog_24_method_1_code 28 = .ok (.putfield 19, 3) := by decide +kernel
theorem d7_31 : decode prog_24_method_1_code 31 = .ok (.aload_n 0, 1) := by decide +kernel
theorem d7_32 : decode prog_24_method_1_code 32 = .ok (.aload_n 2, 1) := by decide +kernel
theorem d7_33 : decode prog_24_method_1_code 33 = .ok (.putfield 24, 3) := by decide +kernel
theorem d7_36 : decode prog_24_method_1_code 36 = .ok (.aload_n 0, 1) := by decide +kernel
theorem d7_37 : decode prog_24_method_1_code 37 = .ok (.aload_n 3, 1) := by decide +kernel
theorem d7_38 : decode prog_24_method_1_code 38 = .ok (.putfield 27, 3) := by decide +kernel
theorem d7_41 : decode prog_24_method_1_code 41 = .ok (.aload_n 0, 1) := by decide +kernel
theorem d7_42 : decode prog_24_method_1_code 42 = .ok (.aload 4, 2) := by decide +kernel
theorem d7_44 : decode prog_24_method_1_code 44 = .ok (.putfield 31, 3) := by decide +kernel
theorem d7_47 : decode prog_24_method_1_code 47 = .ok (.aload_n 0, 1) := by decide +kernel
theorem d7_48 : decode prog_24_method_1_code 48 = .ok (.aload 5, 2) := by decide +kernel
theorem d7_50 : decode prog_24_method_1_code 50 = .ok (.putfield 35, 3) := by decide +kernel
theorem d7_53 : decode prog_24_method_1_code 53 = .ok (.aload_n 0, 1) := by decide +kernel
theorem d7_54 : decode prog_24_method_1_code 54 = .ok (.aload 6, 2) := by decide +kernel
theorem d7_56 : decode prog_24_method_1_code 56 = .ok (.putfield 38, 3) := by decide +kernel
theorem d7_59 : decode prog_24_method_1_code 59 = .ok (.return_, 1) := by decide +kernel
theorem ef_rrrnvr_6 (m : MethodId) (x0 : Addr) (x1 : Addr) (x2 : Addr) (x4 : Value) (h4 : x4.isRef = true) (x5 : Addr) : entryFrame m #[(.ref x0), (.ref x1), (.ref x2), .null, x4, (.ref x5)] 6 = mkF m 0 ⟨[.val (.ref x0), .val (.ref x1), .val (.ref x2), .val .null, .val x4, .val (.ref x5)]⟩ [] := by rcases XT.refc h4 with rfl | ⟨_, rfl⟩ <;> exact efOf rfl
theorem d8_0 : decode prog_24_method_2_code 0 = .ok (.aload_n 0, 1) := by decide +kernel
theorem d8_1 : decode prog_24_method_2_code 1 = .ok (.aload_n 1, 1) := by decide +kernel
theorem d8_2 : decode prog_24_method_2_code 2 = .ok (.aload_n 2, 1) := by decide +kernel
theorem d8_3 : decode prog_24_method_2_code 3 = .ok (.aload_n 3, 1) := by decide +kernel
theorem d8_4 : decode prog_24_method_2_code 4 = .ok (.aload 4, 2) := by decide +kernel
theorem d8_6 : decode prog_24_method_2_code 6 = .ok (.aload 5, 2) := by decide +kernel
theorem d8_8 : decode prog_24_method_2_code 8 = .ok (.aconst_null, 1) := by decide +kernel
theorem d8_9 : decode prog_24_method_2_code 9 = .ok (.invokespecial 42, 3) := by decide +kernel
theorem ar_6 : XT.arity "(Ljava/lang/String;Lcom/example/tierwright/tierwright/MaturityDiscount;Lcom/example/tierwright/tierwright/TermsScreen;Lcom/example/tierwright/tierwright/Cumulation;Lcom/example/tierwright/tierwright/Denomination;Lcom/example/tierwright/tierwright/RedemptionTerms;)V" = some 6 := by decide +kernel
theorem d8_12 : decode prog_24_method_2_code 12 = .ok (.return_, 1) := by decide +kernel
theorem ef_rrrnv_5 (m : MethodId) (x0 : Addr) (x1 : Addr) (x2 : Addr) (x4 : Value) (h4 : x4.isRef = true) : entryFrame m #[(.ref x0), (.ref x1), (.ref x2), .null, x4] 5 = mkF m 0 ⟨[.val (.ref x0), .val (.ref x1), .val (.ref x2), .val .null, .val x4]⟩ [] := by rcases XT.refc h4 with rfl | ⟨_, rfl⟩ <;> exact efOf rfl
theorem d9_0 : decode prog_24_method_3_code 0 = .ok (.aload_n 0, 1) := by decide +kernel
theorem d9_1 : decode prog_24_method_3_code 1 = .ok (.aload_n 1, 1) := by decide +kernel
theorem d9_2 : decode prog_24_method_3_code 2 = .ok (.aload_n 2, 1) := by decide +kernel
theorem d9_3 : decode prog_24_method_3_code 3 = .ok (.aload_n 3, 1) := by decide +kernel
theorem d9_4 : decode prog_24_method_3_code 4 = .ok (.aload 4, 2) := by decide +kernel
theorem d9_6 : decode prog_24_method_3_code 6 = .ok (.getstatic 45, 3) := by decide +kernel
theorem d9_9 : decode prog_24_method_3_code 9 = .ok (.invokespecial 50, 3) := by decide +kernel
theorem ar_7 : XT.arity "(Ljava/lang/String;Lcom/example/tierwright/tierwright/MaturityDiscount;Lcom/example/tierwright/tierwright/TermsScreen;Lcom/example/tierwright/tierwright/Cumulation;Lcom/example/tierwright/tierwright/Denomination;)V" = some 5 := by decide +kernel
theorem d9_12 : decode prog_24_method_3_code 12 = .ok (.return_, 1) := by decide +kernel
theorem ef_rrr_3 (m : MethodId) (x0 : Addr) (x1 : Addr) (x2 : Addr) : entryFrame m #[(.ref x0), (.ref x1), (.ref x2)] 3 = mkF m 0 ⟨[.val (.ref x0), .val (.ref x1), .val (.ref x2)]⟩ [] := by exact efOf rfl
theorem d10_0 : decode prog_24_method_5_code 0 = .ok (.aload_n 0, 1) := by decide +kernel
theorem d10_1 : decode prog_24_method_5_code 1 = .ok (.aload_n 1, 1) := by decide +kernel
theorem d10_2 : decode prog_24_method_5_code 2 = .ok (.aload_n 2, 1) := by decide +kernel
theorem d10_3 : decode prog_24_method_5_code 3 = .ok (.aconst_null, 1) := by decide +kernel
theorem d10_4 : decode prog_24_method_5_code 4 = .ok (.aconst_null, 1) := by decide +kernel
theorem d10_5 : decode prog_24_method_5_code 5 = .ok (.invokespecial 53, 3) := by decide +kernel
theorem ar_8 : XT.arity "(Ljava/lang/String;Lcom/example/tierwright/tierwright/MaturityDiscount;Lcom/example/tierwright/tierwright/TermsScreen;Lcom/example/tierwright/tierwright/Cumulation;)V" = some 4 := by decide +kernel
theorem d10_8 : decode prog_24_method_5_code 8 = .ok (.return_, 1) := by decide +kernel
theorem ef_i_2 (m : MethodId) (x0 : Int32) : entryFrame m #[(.int x0)] 2 = mkF m 0 ⟨[.val (.int x0), .unset]⟩ [] := by exact efOf rfl
theorem pn_5 : plainName "com/example/tierwright/tierwright/InstrumentKindRedemptionDecidedPinLaw" = true := by first | (simp [plainName, overriddenIn]; done) | decide +kernel
theorem d11_0 : decode method_2_code 0 = .ok (.iload_n 0, 1) := by decide +kernel
theorem d11_1 : decode method_2_code 1 = .ok (.ldc 7, 2) := by decide +kernel
theorem d11_3 : decode method_2_code 3 = .ok (.iand, 1) := by decide +kernel
theorem d11_4 : decode method_2_code 4 = .ok (.iconst 3, 1) := by decide +kernel
theorem d11_5 : decode method_2_code 5 = .ok (.irem, 1) := by decide +kernel
theorem d11_6 : decode method_2_code 6 = .ok (.istore_n 1, 1) := by decide +kernel
theorem d11_7 : decode method_2_code 7 = .ok (.iload_n 1, 1) := by decide +kernel
theorem d11_8 : decode method_2_code 8 = .ok (.ifCond .ne 7, 3) := by decide +kernel
theorem d11_15 : decode method_2_code 15 = .ok (.iload_n 1, 1) := by decide +kernel
theorem d11_16 : decode method_2_code 16 = .ok (.iconst 1, 1) := by decide +kernel
theorem d11_17 : decode method_2_code 17 = .ok (.if_icmp .ne 7, 3) := by decide +kernel
theorem d11_24 : decode method_2_code 24 = .ok (.getstatic 17, 3) := by decide +kernel
theorem d11_27 : decode method_2_code 27 = .ok (.areturn, 1) := by decide +kernel
theorem d11_20 : decode method_2_code 20 = .ok (.getstatic 14, 3) := by decide +kernel
theorem d11_23 : decode method_2_code 23 = .ok (.areturn, 1) := by decide +kernel
theorem d11_11 : decode method_2_code 11 = .ok (.getstatic 8, 3) := by decide +kernel
theorem d11_14 : decode method_2_code 14 = .ok (.areturn, 1) := by decide +kernel
theorem d12_0 : decode prog_24_method_8_code 0 = .ok (.aload_n 0, 1) := by decide +kernel
theorem d12_1 : decode prog_24_method_8_code 1 = .ok (.getfield 38, 3) := by decide +kernel
theorem d12_4 : decode prog_24_method_8_code 4 = .ok (.ifnull 7, 3) := by decide +kernel
theorem d12_11 : decode prog_24_method_8_code 11 = .ok (.iconst 0, 1) := by decide +kernel
theorem d12_12 : decode prog_24_method_8_code 12 = .ok (.ireturn, 1) := by decide +kernel
theorem d13_0 : decode prog_24_method_17_code 0 = .ok (.aload_n 0, 1) := by decide +kernel
theorem d13_1 : decode prog_24_method_17_code 1 = .ok (.getfield 38, 3) := by decide +kernel
theorem d13_4 : decode prog_24_method_17_code 4 = .ok (.areturn, 1) := by decide +kernel
theorem ef_iiiii_9 (m : MethodId) (x0 : Int32) (x1 : Int32) (x2 : Int32) (x3 : Int32) (x4 : Int32) : entryFrame m #[(.int x0), (.int x1), (.int x2), (.int x3), (.int x4)] 9 = mkF m 0 ⟨[.val (.int x0), .val (.int x1), .val (.int x2), .val (.int x3), .val (.int x4), .unset, .unset, .unset, .unset]⟩ [] := by exact efOf rfl
theorem ar_9 : XT.arity "([C)V" = some 1 := by decide +kernel
theorem ar_10 : XT.arity "(I)Lcom/example/tierwright/tierwright/MaturityDiscount;" = some 1 := by decide +kernel
theorem ar_11 : XT.arity "(Ljava/lang/String;Lcom/example/tierwright/tierwright/MaturityDiscount;)V" = some 2 := by decide +kernel
theorem ar_12 : XT.arity "()Z" = some 0 := by decide +kernel
theorem ar_13 : XT.arity "()Lcom/example/tierwright/tierwright/RedemptionTerms;" = some 0 := by decide +kernel
theorem layS_ok {Z : State} {a0 : Array Value} (hw : ∀ d ∈ tables_1, d.before a0 Z = true) : LayOk Z a0 "java/lang/String" layS := by
  refine ⟨fun f hf => ?_, by decide +kernel, fun f hf => ?_⟩
  all_goals simp only [layS, List.mem_cons, List.not_mem_nil, or_false] at hf
  all_goals rcases hf with rfl | rfl
  · exact Or.inr (hw _ (List.mem_of_getElem? (i := 17) rfl))
  · exact Or.inr (hw _ (List.mem_of_getElem? (i := 18) rfl))
  · exact ⟨(.array .byte), by decide +kernel⟩
  · exact ⟨.byte, by decide +kernel⟩
theorem layS_dv : Dv layS [.null, (.int 0)] := by decide +kernel
/-- the byte of a sign -/
def b8 (c : Int32) : Int32 := c.toInt8.toInt32
def toB (c : Int32) : Value := .int (b8 c)
theorem toB_eq (cs : List Int32) : cs.map toB = (cs.map b8).map .int := by rw [List.map_map]; rfl
def Lat (cs : List Int32) : Prop := ∀ c ∈ cs, 0 ≤ c.toInt ∧ c.toInt < 256
theorem lat_nil : Lat [] := fun _ h => nomatch h
theorem lat_cons {c : Int32} {cs : List Int32} (h : 0 ≤ c.toInt ∧ c.toInt < 256) (t : Lat cs) : Lat (c :: cs) := fun x hx => (List.mem_cons.mp hx).elim (fun e => e ▸ h) (t x)
theorem lat_le {c : Int32} (h : 0 ≤ c.toInt ∧ c.toInt < 256) : ¬ (255 : Int32) < c := by rw [Int32.lt_iff_toInt_lt]; show ¬ (255 : Int) < _; omega
theorem toB_nar (c : Int32) : nar .byte c.toInt8.toInt32 = c.toInt8.toInt32 := by simp [nar]
theorem set_mid (cs : List Int32) (i : Nat) (h : i < cs.length) : ((cs.take i).map toB ++ List.replicate (cs.length - i) (Value.int 0)).set i (toB cs[i]) = (cs.take (i + 1)).map toB ++ List.replicate (cs.length - (i + 1)) (Value.int 0) := by
  have h1 : ((cs.take i).map toB).length = i := by simp; omega
  rw [List.set_append_right _ _ (by omega), h1, Nat.sub_self, show cs.length - i = (cs.length - (i + 1)) + 1 by omega, List.replicate_succ, List.set_cons_zero, List.take_succ_eq_append_getElem h, List.map_append, List.append_assoc]
  rfl
theorem nchar_lat {c : Int32} (h : 0 ≤ c.toInt ∧ c.toInt < 256) : nar .char c = c := by
  apply Int32.toInt_inj.mp
  have q := c_i2c c
  show c.toUInt32.toUInt16.toUInt32.toInt32.toInt = c.toInt
  omega
theorem b8_toInt {c : Int32} (h : 0 ≤ c.toInt ∧ c.toInt < 256) : (b8 c).toInt = if c.toInt < 128 then c.toInt else c.toInt - 256 := by
  have q := c_i2b c
  show c.toInt8.toInt32.toInt = _
  split <;> omega
theorem b8_iff {c d e : Int32} (h : 0 ≤ c.toInt ∧ c.toInt < 256) (h' : 0 ≤ d.toInt ∧ d.toInt < 256) (he : b8 d = e) : b8 c = e ↔ c = d := by
  subst he
  refine ⟨fun q => Int32.toInt_inj.mp ?_, fun q => by rw [q]⟩
  have := congrArg Int32.toInt q
  rw [b8_toInt h, b8_toInt h'] at this
  split at this <;> split at this <;> omega
set_option maxHeartbeats 4000000 in
theorem wk_compressL {l : Launch} {Z : State} {a0 : Array Value} (hw : ∀ d ∈ tables_1, d.before a0 Z = true) (hE : EW Z a0 EL0) {L : Store} {ca b : Addr} {fa : Bool} {cs : List Int32} (hc : Lat cs) (hl : cs.length < 2 ^ 31) (hm : (ca, fa, AR Z .char (cs.map .int)) ∈ L) {cb sb : Nat} : ∀ (k i : Nat) (o : Slot), i + k = cs.length → One o →
    Wk l Z a0 EL0 (⟨"java/lang/StringUTF16", "compress", "([CI[BII)I"⟩ : MethodName) jdk_52_method_21_code 7 (some .int) ({ frames := 0, cells := 0, slots := 0, locals := 0 } : Room) (RV fun u M => u = .int cs.length.toInt32 ∧ M = (b, true, AR Z .byte ((cs.map b8).map .int)) :: L) ((b, true, AR Z .byte ((cs.take i).map toB ++ List.replicate (cs.length - i) (.int 0))) :: L) cb sb 3 [.val (.ref ca), .val (.int i.toInt32), .val (.ref b), .val (.int i.toInt32), .val (.int cs.length.toInt32), .val (.int i.toInt32), o] [] := by
  intro k
  induction k with
  | zero =>
    intro i o hi ho
    have hi' : i = cs.length := by omega
    subst hi'
    refine Wk.iload (q := 5) d0_3 rfl rfl ?_
    refine Wk.iload (q := 7) d0_5 rfl rfl ?_
    refine Wk.icmp_t (q := 44) d0_7 (by decide) (by decide) (XT.ii_ge_t (fun h => by rw [n32_lt hl hl] at h; omega)) ?_
    refine Wk.iload (q := 46) d0_44 rfl rfl ?_
    refine Wk.ireturn (t := .int) d0_46 rfl (by simp) (by rfl) ?_
    refine ⟨_, rfl, rfl, ?_⟩
    rw [← toB_eq]
    simp
  | succ k ih =>
    intro i o hi ho
    have hil : i < cs.length := by omega
    have hi3 : i < 2 ^ 31 := by omega
    have hv : (cs.map Value.int)[i]? = some (.int cs[i]) := by simp [hil]
    have hci := hc cs[i] (List.getElem_mem hil)
    refine Wk.iload (q := 5) d0_3 rfl rfl ?_
    refine Wk.iload (q := 7) d0_5 rfl rfl ?_
    refine Wk.icmp_f (q := 10) d0_7 rfl (XT.ii_ge_f ((n32_lt hi3 hl).mpr hil)) ?_
    refine Wk.aload_n (q := 11) d0_10 rfl rfl (by first | rfl | assumption) ?_
    refine Wk.iload_n (q := 12) d0_11 rfl rfl ?_
    refine Wk.caload (q := 13) (i) d0_12 rfl (by repeat (first | exact List.mem_cons_self | assumption | refine List.mem_cons_of_mem _ ?_)) (n32_nn hi3) (n32_nat hi3) hv ?_
    refine Wk.istore (q := 15) d0_13 rfl (LS1.there (LS1.there (LS1.there (LS1.there (LS1.there (LS1.there (LS1.here (by first | exact One.u | exact One.val rfl | assumption)))))))) ?_
    refine Wk.iload (q := 17) d0_15 rfl rfl ?_
    refine Wk.sipush (q := 20) (255) d0_17 rfl (by decide) ?_
    refine Wk.icmp_t (q := 26) d0_20 (by decide) (by decide) (XT.ii_le_t (lat_le hci)) ?_
    refine Wk.aload_n (q := 27) d0_26 rfl rfl (by first | rfl | assumption) ?_
    refine Wk.iload_n (q := 28) d0_27 rfl rfl ?_
    refine Wk.iload (q := 30) d0_28 rfl rfl ?_
    refine Wk.i2b (q := 31) d0_30 rfl ?_
    refine Wk.bastore (q := 32) (i) d0_31 rfl (by repeat (first | exact Ex.here | assumption | apply Ex.there)) (n32_nn hi3) (n32_nat hi3) (toB_nar _) ⟨set_mid cs i hil, by simp; omega⟩ ?_
    refine Wk.iinc (q := 35) (1) d0_32 rfl (by decide) rfl (LS1.there (LS1.here (by first | exact One.u | exact One.val rfl | assumption))) ?_
    refine Wk.iinc (q := 38) (1) d0_35 rfl (by decide) rfl (LS1.there (LS1.there (LS1.there (LS1.here (by first | exact One.u | exact One.val rfl | assumption))))) ?_
    refine Wk.iinc (q := 41) (1) d0_38 rfl (by decide) rfl (LS1.there (LS1.there (LS1.there (LS1.there (LS1.there (LS1.here (by first | exact One.u | exact One.val rfl | assumption))))))) ?_
    refine Wk.goto (q := 3) d0_41 (by decide) (by decide) ?_
    rw [n32_succ]
    exact ih (i + 1) _ (by omega) (One.val rfl)
set_option maxHeartbeats 4000000 in
theorem ct_compressL {l : Launch} {Z : State} {a0 : Array Value} (hw : ∀ d ∈ tables_1, d.before a0 Z = true) (hE : EW Z a0 EL0) {L : Store} {ca b : Addr} {fa : Bool} {cs : List Int32} (hc : Lat cs) (hl : cs.length < 2 ^ 31) (hm : (ca, fa, AR Z .char (cs.map .int)) ∈ L) :
    Ct l Z EL0 (⟨"java/lang/StringUTF16", "compress", "([CI[BII)I"⟩ : MethodName) jdk_52_method_21_code 7 (some .int) ({ frames := 0, cells := 0, slots := 0, locals := 0 } : Room) #[.ref ca, .int 0, .ref b, .int 0, .int cs.length.toInt32] ((b, true, AR Z .byte (List.replicate cs.length (.int 0))) :: L) (RV fun u M => u = .int cs.length.toInt32 ∧ M = (b, true, AR Z .byte ((cs.map b8).map .int)) :: L) := by
  refine Ct.of (a0 := a0) (Ls := [.val (.ref _), .val (.int _), .val (.ref _), .val (.int _), .val (.int _), .unset, .unset]) (plainFor_of_name pn_0) (fun m => ef_ririi_7 m _ _ _ _ _) hE ?_
  refine Wk.iconst (q := 1) (0) d0_0 rfl (by decide) ?_
  refine Wk.istore (q := 3) d0_1 rfl (LS1.there (LS1.there (LS1.there (LS1.there (LS1.there (LS1.here (by first | exact One.u | exact One.val rfl | assumption))))))) ?_
  have h := wk_compressL hw hE (l := l) (b := b) (cb := 0) (sb := 0) hc hl hm cs.length 0 .unset (by omega) One.u
  simp only [List.take_zero, List.map_nil, List.nil_append, Nat.sub_zero] at h
  exact h
theorem ct_coderLat {l : Launch} {Z : State} {a0 : Array Value} (hw : ∀ d ∈ tables_1, d.before a0 Z = true) (hE : EW Z a0 EL0) {L : Store} {b : Addr} {fb : Bool} {vs : List Value} (hm : (b, fb, AR Z .byte vs) ∈ L) :
    Ct l Z EL0 (⟨"java/lang/StringUTF16", "coderFromArrayLen", "([BI)B"⟩ : MethodName) jdk_52_method_15_code 2 (some .byte) ({ frames := 0, cells := 0, slots := 0, locals := 0 } : Room) #[.ref b, .int vs.length.toInt32] L (RV fun u M => u = .int 0 ∧ M = L) := by
  refine Ct.of (a0 := a0) (Ls := [.val (.ref _), .val (.int _)]) (plainFor_of_name pn_0) (fun m => ef_ri_2 m _ _) hE ?_
  refine Wk.iload_n (q := 1) d1_0 rfl rfl ?_
  refine Wk.aload_n (q := 2) d1_1 rfl rfl (by first | rfl | assumption) ?_
  refine Wk.arraylength (q := 3) d1_2 rfl (by repeat (first | exact List.mem_cons_self | assumption | refine List.mem_cons_of_mem _ ?_)) (by rfl) ?_
  refine Wk.isub (q := 4) d1_3 rfl ?_
  rw [Int32.sub_self]
  refine Wk.bipush (q := 6) (31) d1_4 rfl (by decide) ?_
  refine Wk.iushr (q := 7) d1_6 rfl ?_
  refine Wk.i2b (q := 8) d1_7 rfl ?_
  refine Wk.ireturn (t := .byte) d1_8 rfl (by simp) (by decide) ?_
  exact ⟨_, rfl, by decide, rfl⟩
set_option maxHeartbeats 4000000 in
theorem ct_compressA {l : Launch} {Z : State} {a0 : Array Value} (hw : ∀ d ∈ tables_1, d.before a0 Z = true) (hE : EW Z a0 EL0) {L : Store} {ca : Addr} {fa : Bool} {cs : List Int32} (hc : Lat cs) (N : Nat) (hN : cs.length ≤ N) (hl : cs.length ≤ 4000) (hm : (ca, fa, AR Z .char (cs.map .int)) ∈ L) :
    Ct l Z EL0 (⟨"java/lang/StringUTF16", "compress", "([CII)[B"⟩ : MethodName) jdk_52_method_16_code 6 (some (.array .byte)) ({ frames := 1, cells := 1, slots := N, locals := 18 } : Room) #[.ref ca, .int 0, .int cs.length.toInt32] L (RV fun u M => ∃ b, u = .ref b ∧ M = (b, true, AR Z .byte ((cs.map b8).map .int)) :: L) := by
  have h31 : cs.length < 2 ^ 31 := by omega
  refine Ct.of (a0 := a0) (Ls := [.val (.ref _), .val (.int _), .val (.int _), .unset, .unset, .unset]) (plainFor_of_name pn_0) (fun m => ef_rii_6 m _ _ _) hE ?_
  refine Wk.iload_n (q := 1) d2_0 rfl rfl ?_
  refine Wk.newarray (q := 3) .byte (cs.length) (List.replicate cs.length (.int 0)) d2_1 rfl rfl rfl (hw _ (List.mem_of_getElem? (i := 16) rfl)) (n32_nn h31) (n32_nat h31) (by omega) (by first | decide | (dsimp only; omega) | omega) (by first | decide | (dsimp only; omega) | omega) ?_
  intro b
  refine Wk.astore_n (q := 4) d2_3 rfl (by first | rfl | assumption) (LS1.there (LS1.there (LS1.there (LS1.here (by first | exact One.u | exact One.val rfl | assumption))))) ?_
  refine Wk.aload_n (q := 5) d2_4 rfl rfl (by first | rfl | assumption) ?_
  refine Wk.iload_n (q := 6) d2_5 rfl rfl ?_
  refine Wk.aload_n (q := 7) d2_6 rfl rfl (by first | rfl | assumption) ?_
  refine Wk.iconst (q := 8) (0) d2_7 rfl (by decide) ?_
  refine Wk.iload_n (q := 9) d2_8 rfl rfl ?_
  refine Wk.static (q := 12) [_, _, _, _, _] _ 0 d2_9 rfl (hw _ (List.mem_of_getElem? (i := 88) rfl)) (hw _ (List.mem_of_getElem? (i := 89) rfl)) (hw _ (List.mem_of_getElem? (i := 86) rfl)) (hw _ (List.mem_of_getElem? (i := 90) rfl)) ar_0 (by decide) rfl rfl rfl rfl (ct_compressL hw hE hc h31 hm) (by first | decide | (dsimp only; omega) | omega) (by first | decide | (dsimp only; omega) | omega) (by first | decide | (dsimp only; omega) | omega) (by first | decide | (dsimp only; omega) | omega) (kv ?_)
  rintro _ _ ⟨rfl, rfl⟩
  refine Wk.istore (q := 14) d2_12 rfl (LS1.there (LS1.there (LS1.there (LS1.there (LS1.here (by first | exact One.u | exact One.val rfl | assumption)))))) ?_
  refine Wk.iload (q := 16) d2_14 rfl rfl ?_
  refine Wk.iload_n (q := 17) d2_16 rfl rfl ?_
  refine Wk.icmp_t (q := 57) d2_17 (by decide) (by decide) (XT.ii_eq_t rfl) ?_
  refine Wk.aload_n (q := 58) d2_57 rfl rfl (by first | rfl | assumption) ?_
  refine Wk.areturn (t := (.array .byte)) d2_58 rfl rfl (by first | rfl | exact narO | exact narA) (by first | rfl | assumption) ?_
  exact ⟨_, rfl, b, rfl, rfl⟩
set_option maxHeartbeats 4000000 in
theorem ct_strInit4 {l : Launch} {Z : State} {a0 : Array Value} (hw : ∀ d ∈ tables_1, d.before a0 Z = true) (hE : EW Z a0 EL0) (F : ∃ z, z ≠ (0 : Int32) ∧ Sta Z Z.heap "java/lang/String" "COMPACT_STRINGS" "Z" (.int z)) {L : Store} {sa ca : Addr} {fa : Bool} {cs : List Int32} (hc : Lat cs) (h0 : cs ≠ []) (N : Nat) (hN : cs.length ≤ N) (hl : cs.length ≤ 4000) (hm : (ca, fa, AR Z .char (cs.map .int)) ∈ L) :
    Ct l Z EL0 (⟨"java/lang/String", "<init>", "([CIILjava/lang/Void;)V"⟩ : MethodName) jdk_42_method_149_code 6 none ({ frames := 2, cells := 1, slots := N, locals := 35 } : Room) #[.ref sa, .ref ca, .int 0, .int cs.length.toInt32, .null] ((sa, true, OB Z "java/lang/String" layS [.null, .int 0]) :: L) (R0 fun M => ∃ b, M = (sa, true, OB Z "java/lang/String" layS [.ref b, .int 0]) :: (b, true, AR Z .byte ((cs.map b8).map .int)) :: L) := by
  have h31 : cs.length < 2 ^ 31 := by omega
  have hp : 0 < cs.length := List.length_pos_iff.mpr h0
  obtain ⟨z, hz, FS⟩ := F
  refine Ct.of (a0 := a0) (Ls := [.val (.ref _), .val (.ref _), .val (.int _), .val (.int _), .val .null, .unset]) (plainFor_of_name pn_1) (fun m => ef_rriin_6 m _ _ _ _) hE ?_
  refine Wk.aload_n (q := 1) d3_0 rfl rfl (by first | rfl | assumption) ?_
  refine Wk.objinit (q := 4) 0 d3_1 rfl (hw _ (List.mem_of_getElem? (i := 12) rfl)) (hw _ (List.mem_of_getElem? (i := 13) rfl)) (hw _ (List.mem_of_getElem? (i := 14) rfl)) rfl (by first | decide | (dsimp only; omega) | omega) rfl (by first | decide | (dsimp only; omega) | omega) ?_
  refine Wk.iload_n (q := 5) d3_4 rfl rfl ?_
  refine Wk.if_t (q := 27) d3_5 (by decide) (by decide) (XT.i0_ne_t (fun h => by have := (n32_inj h31 (by omega : 0 < 2 ^ 31)).mp h; omega)) ?_
  refine Wk.getstatic (q := 30) d3_27 rfl (hw _ (List.mem_of_getElem? (i := 83) rfl)) Via.refl FS ?_
  refine Wk.if_f (q := 33) d3_30 rfl (XT.i0_eq_f hz) ?_
  refine Wk.aload_n (q := 34) d3_33 rfl rfl (by first | rfl | assumption) ?_
  refine Wk.iload_n (q := 35) d3_34 rfl rfl ?_
  refine Wk.iload_n (q := 36) d3_35 rfl rfl ?_
  refine Wk.static (q := 39) [_, _, _] _ 0 d3_36 rfl (hw _ (List.mem_of_getElem? (i := 84) rfl)) (hw _ (List.mem_of_getElem? (i := 85) rfl)) (hw _ (List.mem_of_getElem? (i := 86) rfl)) (hw _ (List.mem_of_getElem? (i := 87) rfl)) ar_1 (by decide) rfl rfl rfl rfl (ct_compressA hw hE hc N hN hl (List.mem_cons_of_mem _ hm)) (by first | decide | (dsimp only; omega) | omega) (by first | decide | (dsimp only; omega) | omega) (by first | decide | (dsimp only; omega) | omega) (by first | decide | (dsimp only; omega) | omega) (kv ?_)
  rintro _ _ ⟨b, rfl, rfl⟩
  refine Wk.astore (q := 41) d3_39 rfl (by first | rfl | assumption) (LS1.there (LS1.there (LS1.there (LS1.there (LS1.there (LS1.here (by first | exact One.u | exact One.val rfl | assumption))))))) ?_
  refine Wk.aload_n (q := 42) d3_41 rfl rfl (by first | rfl | assumption) ?_
  refine Wk.aload (q := 44) d3_42 rfl rfl (by first | rfl | assumption) ?_
  refine Wk.iload_n (q := 45) d3_44 rfl rfl ?_
  rw [show cs.length = ((cs.map b8).map Value.int).length by simp]
  refine Wk.static (q := 48) [_, _] _ 1 d3_45 rfl (hw _ (List.mem_of_getElem? (i := 91) rfl)) (hw _ (List.mem_of_getElem? (i := 92) rfl)) (hw _ (List.mem_of_getElem? (i := 86) rfl)) (hw _ (List.mem_of_getElem? (i := 93) rfl)) ar_2 (by decide) rfl rfl rfl rfl (ct_coderLat hw hE List.mem_cons_self) (by first | decide | (dsimp only; omega) | omega) (by first | decide | (dsimp only; omega) | omega) (by first | decide | (dsimp only; omega) | omega) (by first | decide | (dsimp only; omega) | omega) (kv ?_)
  rintro _ _ ⟨rfl, rfl⟩
  refine Wk.putfield (q := 51) (C := "java/lang/String") (lay := layS) 1 d3_48 rfl (hw _ (List.mem_of_getElem? (i := 22) rfl)) Via.refl (layS_ok hw) (hw _ (List.mem_of_getElem? (i := 3) rfl)) (Or.inr ⟨(hw _ (List.mem_of_getElem? (i := 18) rfl)), rfl, rfl⟩) rfl (by decide +kernel : parseFieldDescriptor "B" = some .byte) (by repeat (first | exact Ex.here | assumption | apply Ex.there)) (VS.there (VS.here)) (by first | rfl | exact narO) (by first | rfl | exact fitO (by assumption) | exact fitA (by assumption)) ?_
  refine Wk.aload_n (q := 52) d3_51 rfl rfl (by first | rfl | assumption) ?_
  refine Wk.aload (q := 54) d3_52 rfl rfl (by first | rfl | assumption) ?_
  refine Wk.putfield (q := 57) (C := "java/lang/String") (lay := layS) 0 d3_54 rfl (hw _ (List.mem_of_getElem? (i := 21) rfl)) Via.refl (layS_ok hw) (hw _ (List.mem_of_getElem? (i := 3) rfl)) (Or.inr ⟨(hw _ (List.mem_of_getElem? (i := 17) rfl)), rfl, rfl⟩) rfl (by decide +kernel : parseFieldDescriptor "[B" = some (.array .byte)) (by repeat (first | exact Ex.here | assumption | apply Ex.there)) (VS.here) (by first | rfl | exact narO) (by first | rfl | exact fitO (by assumption) | exact fitA (by assumption)) ?_
  refine Wk.return_ d3_57 rfl ?_
  exact ⟨rfl, b, rfl⟩
set_option maxHeartbeats 4000000 in
theorem ct_strInit {l : Launch} {Z : State} {a0 : Array Value} (hw : ∀ d ∈ tables_1, d.before a0 Z = true) (hE : EW Z a0 EL0) (F : ∃ z, z ≠ (0 : Int32) ∧ Sta Z Z.heap "java/lang/String" "COMPACT_STRINGS" "Z" (.int z)) {L : Store} {sa ca : Addr} {fa : Bool} {cs : List Int32} (hc : Lat cs) (h0 : cs ≠ []) (N : Nat) (hN : cs.length ≤ N) (hl : cs.length ≤ 4000) (hm : (ca, fa, AR Z .char (cs.map .int)) ∈ L) :
    Ct l Z EL0 (⟨"java/lang/String", "<init>", "([C)V"⟩ : MethodName) jdk_42_method_3_code 2 none ({ frames := 3, cells := 1, slots := N, locals := 52 } : Room) #[.ref sa, .ref ca] ((sa, true, OB Z "java/lang/String" layS [.null, .int 0]) :: L) (R0 fun M => ∃ b, M = (sa, true, OB Z "java/lang/String" layS [.ref b, .int 0]) :: (b, true, AR Z .byte ((cs.map b8).map .int)) :: L) := by
  refine Ct.of (a0 := a0) (Ls := [.val (.ref _), .val (.ref _)]) (plainFor_of_name pn_1) (fun m => ef_rr_2 m _ _) hE ?_
  refine Wk.aload_n (q := 1) d4_0 rfl rfl (by first | rfl | assumption) ?_
  refine Wk.aload_n (q := 2) d4_1 rfl rfl (by first | rfl | assumption) ?_
  refine Wk.iconst (q := 3) (0) d4_2 rfl (by decide) ?_
  refine Wk.aload_n (q := 4) d4_3 rfl rfl (by first | rfl | assumption) ?_
  refine Wk.arraylength (q := 5) d4_4 rfl (by repeat (first | exact List.mem_cons_self | assumption | refine List.mem_cons_of_mem _ ?_)) (show (cs.map Value.int).length.toInt32 = cs.length.toInt32 by simp) ?_
  refine Wk.aconst_null (q := 6) d4_5 rfl ?_
  refine Wk.special (q := 9) [_, _, _, _] _ 0 d4_6 rfl rfl (hw _ (List.mem_of_getElem? (i := 8) rfl)) (hw _ (List.mem_of_getElem? (i := 9) rfl)) (hw _ (List.mem_of_getElem? (i := 4) rfl)) (hw _ (List.mem_of_getElem? (i := 11) rfl)) ar_3 (by decide) rfl rfl rfl rfl (ct_strInit4 hw hE F hc h0 N hN hl hm) (by first | decide | (dsimp only; omega) | omega) (by first | decide | (dsimp only; omega) | omega) (by first | decide | (dsimp only; omega) | omega) (by first | decide | (dsimp only; omega) | omega) (k0 ?_)
  rintro _ ⟨b, rfl⟩
  refine Wk.return_ d4_9 rfl ?_
  exact ⟨rfl, b, rfl⟩

set_option maxHeartbeats 4000000 in
theorem ct_strInit4e {l : Launch} {Z : State} {a0 : Array Value} (hw : ∀ d ∈ tables_1, d.before a0 Z = true) (hE : EW Z a0 EL0) {L : Store} {sa ca : Addr} :
    Ct l Z EL0 (⟨"java/lang/String", "<init>", "([CIILjava/lang/Void;)V"⟩ : MethodName) jdk_42_method_149_code 6 none ({ frames := 2, cells := 4, slots := 8, locals := 35 } : Room) #[.ref sa, .ref ca, .int 0, .int 0, .null] ((sa, true, OB Z "java/lang/String" layS [.null, .int 0]) :: L) (R0 fun M => ∃ b, M = (sa, true, OB Z "java/lang/String" layS [.ref b, .int 0]) :: (b, false, AR Z .byte []) :: L) := by
  refine Ct.of (a0 := a0) (Ls := [.val (.ref _), .val (.ref _), .val (.int _), .val (.int _), .val .null, .unset]) (plainFor_of_name pn_1) (fun m => ef_rriin_6 m _ _ _ _) hE ?_
  refine Wk.aload_n (q := 1) d3_0 rfl rfl (by first | rfl | assumption) ?_
  refine Wk.objinit (q := 4) 0 d3_1 rfl (hw _ (List.mem_of_getElem? (i := 12) rfl)) (hw _ (List.mem_of_getElem? (i := 13) rfl)) (hw _ (List.mem_of_getElem? (i := 14) rfl)) rfl (by first | decide | (dsimp only; omega) | omega) rfl (by first | decide | (dsimp only; omega) | omega) ?_
  refine Wk.iload_n (q := 5) d3_4 rfl rfl ?_
  refine Wk.if_f (q := 8) d3_5 rfl (by decide) ?_
  refine Wk.aload_n (q := 9) d3_8 rfl rfl (by first | rfl | assumption) ?_
  refine Wk.ldcS (q := 11) 0 [] 0 d3_9 rfl (hw _ (List.mem_of_getElem? (i := 15) rfl)) (wS hw) (by decide +kernel) (by decide +kernel) (by decide) (by decide) (by decide +kernel) (by decide) (by first | decide | (dsimp only; omega) | omega) (by first | decide | (dsimp only; omega) | omega) ?_
  intro t1 b1
  refine Wk.getfield (q := 14) (C := "java/lang/String") (lay := layS) 0 d3_11 rfl (hw _ (List.mem_of_getElem? (i := 21) rfl)) Via.refl (by repeat (first | exact List.mem_cons_self | assumption | refine List.mem_cons_of_mem _ ?_)) rfl (by rfl) ?_
  refine Wk.putfield (q := 17) (C := "java/lang/String") (lay := layS) 0 d3_14 rfl (hw _ (List.mem_of_getElem? (i := 21) rfl)) Via.refl (layS_ok hw) (hw _ (List.mem_of_getElem? (i := 3) rfl)) (Or.inr ⟨(hw _ (List.mem_of_getElem? (i := 17) rfl)), rfl, rfl⟩) rfl (by decide +kernel : parseFieldDescriptor "[B" = some (.array .byte)) (by repeat (first | exact Ex.here | assumption | apply Ex.there)) (VS.here) (by first | rfl | exact narO) (by first | rfl | exact fitO (by assumption) | exact fitA (by assumption)) ?_
  refine Wk.aload_n (q := 18) d3_17 rfl rfl (by first | rfl | assumption) ?_
  refine Wk.ldcS (q := 20) 0 [] 0 d3_18 rfl (hw _ (List.mem_of_getElem? (i := 15) rfl)) (wS hw) (by decide +kernel) (by decide +kernel) (by decide) (by decide) (by decide +kernel) (by decide) (by first | decide | (dsimp only; omega) | omega) (by first | decide | (dsimp only; omega) | omega) ?_
  intro t2 b2
  refine Wk.getfield (q := 23) (C := "java/lang/String") (lay := layS) 1 d3_20 rfl (hw _ (List.mem_of_getElem? (i := 22) rfl)) Via.refl (by repeat (first | exact List.mem_cons_self | assumption | refine List.mem_cons_of_mem _ ?_)) rfl (by rfl) ?_
  refine Wk.putfield (q := 26) (C := "java/lang/String") (lay := layS) 1 d3_23 rfl (hw _ (List.mem_of_getElem? (i := 22) rfl)) Via.refl (layS_ok hw) (hw _ (List.mem_of_getElem? (i := 3) rfl)) (Or.inr ⟨(hw _ (List.mem_of_getElem? (i := 18) rfl)), rfl, rfl⟩) rfl (by decide +kernel : parseFieldDescriptor "B" = some .byte) (by repeat (first | exact Ex.here | assumption | apply Ex.there)) (VS.there (VS.here)) (by first | rfl | exact narO) (by first | rfl | exact fitO (by assumption) | exact fitA (by assumption)) ?_
  refine Wk.sub (.cons_cons _ (.cons _ (.cons _ (.cons _ (.refl _))))) ?_
  refine Wk.return_ d3_26 rfl ?_
  exact ⟨rfl, b1, rfl⟩
set_option maxHeartbeats 4000000 in
theorem ct_strInitG {l : Launch} {Z : State} {a0 : Array Value} (hw : ∀ d ∈ tables_1, d.before a0 Z = true) (hE : EW Z a0 EL0) (F : ∃ z, z ≠ (0 : Int32) ∧ Sta Z Z.heap "java/lang/String" "COMPACT_STRINGS" "Z" (.int z)) {L : Store} {sa ca : Addr} {fa : Bool} {cs : List Int32} (hc : Lat cs) (N : Nat) (hN : cs.length ≤ N) (hl : cs.length ≤ 4000) (hm : (ca, fa, AR Z .char (cs.map .int)) ∈ L) :
    Ct l Z EL0 (⟨"java/lang/String", "<init>", "([C)V"⟩ : MethodName) jdk_42_method_3_code 2 none ({ frames := 3, cells := 4, slots := N + 8, locals := 52 } : Room) #[.ref sa, .ref ca] ((sa, true, OB Z "java/lang/String" layS [.null, .int 0]) :: L) (R0 fun M => ∃ b fb, M = (sa, true, OB Z "java/lang/String" layS [.ref b, .int 0]) :: (b, fb, AR Z .byte ((cs.map b8).map .int)) :: L) := by
  refine Ct.of (a0 := a0) (Ls := [.val (.ref _), .val (.ref _)]) (plainFor_of_name pn_1) (fun m => ef_rr_2 m _ _) hE ?_
  refine Wk.aload_n (q := 1) d4_0 rfl rfl (by first | rfl | assumption) ?_
  refine Wk.aload_n (q := 2) d4_1 rfl rfl (by first | rfl | assumption) ?_
  refine Wk.iconst (q := 3) (0) d4_2 rfl (by decide) ?_
  refine Wk.aload_n (q := 4) d4_3 rfl rfl (by first | rfl | assumption) ?_
  refine Wk.arraylength (q := 5) d4_4 rfl (by repeat (first | exact List.mem_cons_self | assumption | refine List.mem_cons_of_mem _ ?_)) (show (cs.map Value.int).length.toInt32 = cs.length.toInt32 by simp) ?_
  refine Wk.aconst_null (q := 6) d4_5 rfl ?_
  by_cases h0 : cs = []
  · subst h0
    refine Wk.special (q := 9) [_, _, _, _] _ 0 d4_6 rfl rfl (hw _ (List.mem_of_getElem? (i := 8) rfl)) (hw _ (List.mem_of_getElem? (i := 9) rfl)) (hw _ (List.mem_of_getElem? (i := 4) rfl)) (hw _ (List.mem_of_getElem? (i := 11) rfl)) ar_3 (by decide) rfl rfl rfl rfl (ct_strInit4e hw hE) (by first | decide | (dsimp only; omega) | omega) (by first | decide | (dsimp only; omega) | omega) (by first | decide | (dsimp only; omega) | omega) (by first | decide | (dsimp only; omega) | omega) (k0 ?_)
    rintro _ ⟨b, rfl⟩
    refine Wk.return_ d4_9 rfl ?_
    exact ⟨rfl, b, false, rfl⟩
  · refine Wk.special (q := 9) [_, _, _, _] _ 0 d4_6 rfl rfl (hw _ (List.mem_of_getElem? (i := 8) rfl)) (hw _ (List.mem_of_getElem? (i := 9) rfl)) (hw _ (List.mem_of_getElem? (i := 4) rfl)) (hw _ (List.mem_of_getElem? (i := 11) rfl)) ar_3 (by decide) rfl rfl rfl rfl (ct_strInit4 hw hE F hc h0 N hN hl hm) (by first | decide | (dsimp only; omega) | omega) (by first | decide | (dsimp only; omega) | omega) (by first | decide | (dsimp only; omega) | omega) (by first | decide | (dsimp only; omega) | omega) (k0 ?_)
    rintro _ ⟨b, rfl⟩
    refine Wk.return_ d4_9 rfl ?_
    exact ⟨rfl, b, true, rfl⟩

def layIK : Jvm.OwnW.Lay := [("com/example/tierwright/tierwright/InstrumentKind", "name", "Ljava/lang/String;"), ("com/example/tierwright/tierwright/InstrumentKind", "discount", "Lcom/example/tierwright/tierwright/MaturityDiscount;"), ("com/example/tierwright/tierwright/InstrumentKind", "screen", "Lcom/example/tierwright/tierwright/TermsScreen;"), ("com/example/tierwright/tierwright/InstrumentKind", "cumulation", "Lcom/example/tierwright/tierwright/Cumulation;"), ("com/example/tierwright/tierwright/InstrumentKind", "denomination", "Lcom/example/tierwright/tierwright/Denomination;"), ("com/example/tierwright/tierwright/InstrumentKind", "redemptionTerms", "Lcom/example/tierwright/tierwright/RedemptionTerms;")]
theorem layIK_ok {Z : State} {a0 : Array Value} (hw : ∀ d ∈ tables_1, d.before a0 Z = true) : LayOk Z a0 "com/example/tierwright/tierwright/InstrumentKind" layIK := by
  refine ⟨fun f hf => ?_, by decide +kernel, fun f hf => ?_⟩
  all_goals simp only [layIK, List.mem_cons, List.not_mem_nil, or_false] at hf
  all_goals rcases hf with rfl | rfl | rfl | rfl | rfl | rfl
  · exact Or.inr (hw _ (List.mem_of_getElem? (i := 62) rfl))
  · exact Or.inr (hw _ (List.mem_of_getElem? (i := 64) rfl))
  · exact Or.inr (hw _ (List.mem_of_getElem? (i := 66) rfl))
  · exact Or.inr (hw _ (List.mem_of_getElem? (i := 68) rfl))
  · exact Or.inr (hw _ (List.mem_of_getElem? (i := 70) rfl))
  · exact Or.inr (hw _ (List.mem_of_getElem? (i := 72) rfl))
  · exact ⟨(.object "java/lang/String"), by decide +kernel⟩
  · exact ⟨(.object "com/example/tierwright/tierwright/MaturityDiscount"), by decide +kernel⟩
  · exact ⟨(.object "com/example/tierwright/tierwright/TermsScreen"), by decide +kernel⟩
  · exact ⟨(.object "com/example/tierwright/tierwright/Cumulation"), by decide +kernel⟩
  · exact ⟨(.object "com/example/tierwright/tierwright/Denomination"), by decide +kernel⟩
  · exact ⟨(.object "com/example/tierwright/tierwright/RedemptionTerms"), by decide +kernel⟩
theorem layIK_dv : Dv layIK [.null, .null, .null, .null, .null, .null] := by decide +kernel
abbrev nIK : String := "com/example/tierwright/tierwright/InstrumentKind"
theorem ct_record {l : Launch} {Z : State} {a0 : Array Value} (hw : ∀ d ∈ tables_1, d.before a0 Z = true) (hE : EW Z a0 EL0) {L : Store} {a : Addr} : Ct l Z EL0 (⟨"java/lang/Record", "<init>", "()V"⟩ : MethodName) jdk_30_method_1_code 1 none ({ frames := 1, cells := 0, slots := 0, locals := 12 } : Room) #[.ref a] L (R0 fun M => M = L) := by
  refine Ct.of (a0 := a0) (Ls := [.val (.ref _)]) (plainFor_of_name pn_2) (fun m => ef_r_1 m _) hE ?_
  refine Wk.aload_n (q := 1) d5_0 rfl rfl (by first | rfl | assumption) ?_
  refine Wk.objinit (q := 4) 0 d5_1 rfl (hw _ (List.mem_of_getElem? (i := 53) rfl)) (hw _ (List.mem_of_getElem? (i := 13) rfl)) (hw _ (List.mem_of_getElem? (i := 14) rfl)) rfl (by first | decide | (dsimp only; omega) | omega) rfl (by first | decide | (dsimp only; omega) | omega) ?_
  refine Wk.return_ d5_4 rfl ?_
  exact ⟨rfl, rfl⟩
theorem ct_rnn {l : Launch} {Z : State} {a0 : Array Value} (hw : ∀ d ∈ tables_1, d.before a0 Z = true) (hE : EW Z a0 EL0) {L : Store} {a b : Addr} : Ct l Z EL0 (⟨"java/util/Objects", "requireNonNull", "(Ljava/lang/Object;Ljava/lang/String;)Ljava/lang/Object;"⟩ : MethodName) jdk_31_method_11_code 2 (some (.object "java/lang/Object")) ({ frames := 0, cells := 0, slots := 0, locals := 0 } : Room) #[.ref a, .ref b] L (RV fun u M => u = .ref a ∧ M = L) := by
  refine Ct.of (a0 := a0) (Ls := [.val (.ref _), .val (.ref _)]) (plainFor_of_name pn_3) (fun m => ef_rr_2 m _ _) hE ?_
  refine Wk.aload_n (q := 1) d6_0 rfl rfl (by first | rfl | assumption) ?_
  refine Wk.nonnull_t (q := 13) d6_1 (by decide) (by decide)  ?_
  refine Wk.aload_n (q := 14) d6_13 rfl rfl (by first | rfl | assumption) ?_
  refine Wk.areturn (t := (.object "java/lang/Object")) d6_14 rfl rfl (by first | rfl | exact narO | exact narA) (by first | rfl | assumption) ?_
  exact ⟨_, rfl, rfl, rfl⟩
set_option maxHeartbeats 4000000 in
theorem ct_IK6 {l : Launch} {Z : State} {a0 : Array Value} (hw : ∀ d ∈ tables_1, d.before a0 Z = true) (hE : EW Z a0 EL0) {L : Store} {a s md dn : Addr} {cu : Value} (hcu : cu.isRef = true) :
    Ct l Z EL0 (⟨"com/example/tierwright/tierwright/InstrumentKind", "<init>", "(Ljava/lang/String;Lcom/example/tierwright/tierwright/MaturityDiscount;Lcom/example/tierwright/tierwright/TermsScreen;Lcom/example/tierwright/tierwright/Cumulation;Lcom/example/tierwright/tierwright/Denomination;Lcom/example/tierwright/tierwright/RedemptionTerms;)V"⟩ : MethodName) prog_24_method_1_code 7 none ({ frames := 2, cells := 6, slots := 108, locals := 24 } : Room) #[.ref a, .ref s, .ref md, .null, cu, .ref dn, .null] ((a, true, OB Z nIK layIK [.null, .null, .null, .null, .null, .null]) :: L) (R0 fun M => M = (a, true, OB Z nIK layIK [.ref s, .ref md, .null, cu, .ref dn, .null]) :: L) := by
  refine Ct.of (a0 := a0) (Ls := [.val (.ref _), .val (.ref _), .val (.ref _), .val .null, .val _, .val (.ref _), .val .null]) (plainFor_of_name pn_4) (fun m => ef_rrrnvrn_7 m _ _ _ _ (by assumption) _) hE ?_
  refine Wk.aload_n (q := 1) d7_0 rfl rfl (by first | rfl | assumption) ?_
  refine Wk.special (q := 4) [] _ 0 d7_1 rfl rfl (hw _ (List.mem_of_getElem? (i := 48) rfl)) (hw _ (List.mem_of_getElem? (i := 49) rfl)) (hw _ (List.mem_of_getElem? (i := 51) rfl)) (hw _ (List.mem_of_getElem? (i := 52) rfl)) ar_4 (by decide) rfl rfl rfl rfl (ct_record hw hE) (by first | decide | (dsimp only; omega) | omega) (by first | decide | (dsimp only; omega) | omega) (by first | decide | (dsimp only; omega) | omega) (by first | decide | (dsimp only; omega) | omega) (k0 ?_)
  rintro _ rfl
  refine Wk.aload_n (q := 5) d7_4 rfl rfl (by first | rfl | assumption) ?_
  refine Wk.ldcO (q := 7) 16 d7_5 rfl (hw _ (List.mem_of_getElem? (i := 54) rfl)) (wS hw) (by decide +kernel) (by decide) (by first | decide | (dsimp only; omega) | omega) (by first | decide | (dsimp only; omega) | omega) ?_
  intro t1
  refine Wk.static (q := 10) [_, _] _ 0 d7_7 rfl (hw _ (List.mem_of_getElem? (i := 55) rfl)) (hw _ (List.mem_of_getElem? (i := 56) rfl)) (hw _ (List.mem_of_getElem? (i := 57) rfl)) (hw _ (List.mem_of_getElem? (i := 58) rfl)) ar_5 (by decide) rfl rfl rfl rfl (ct_rnn hw hE) (by first | decide | (dsimp only; omega) | omega) (by first | decide | (dsimp only; omega) | omega) (by first | decide | (dsimp only; omega) | omega) (by first | decide | (dsimp only; omega) | omega) (kv ?_)
  rintro _ _ ⟨rfl, rfl⟩
  refine Wk.pop (q := 11) d7_10 rfl rfl ?_
  refine Wk.aload_n (q := 12) d7_11 rfl rfl (by first | rfl | assumption) ?_
  refine Wk.ldcO (q := 14) 32 d7_12 rfl (hw _ (List.mem_of_getElem? (i := 59) rfl)) (wS hw) (by decide +kernel) (by decide) (by first | decide | (dsimp only; omega) | omega) (by first | decide | (dsimp only; omega) | omega) ?_
  intro t2
  refine Wk.static (q := 17) [_, _] _ 0 d7_14 rfl (hw _ (List.mem_of_getElem? (i := 55) rfl)) (hw _ (List.mem_of_getElem? (i := 56) rfl)) (hw _ (List.mem_of_getElem? (i := 57) rfl)) (hw _ (List.mem_of_getElem? (i := 58) rfl)) ar_5 (by decide) rfl rfl rfl rfl (ct_rnn hw hE) (by first | decide | (dsimp only; omega) | omega) (by first | decide | (dsimp only; omega) | omega) (by first | decide | (dsimp only; omega) | omega) (by first | decide | (dsimp only; omega) | omega) (kv ?_)
  rintro _ _ ⟨rfl, rfl⟩
  refine Wk.pop (q := 18) d7_17 rfl rfl ?_
  refine Wk.aload (q := 20) d7_18 rfl rfl (by first | rfl | assumption) ?_
  refine Wk.ldcO (q := 22) 48 d7_20 rfl (hw _ (List.mem_of_getElem? (i := 60) rfl)) (wS hw) (by decide +kernel) (by decide) (by first | decide | (dsimp only; omega) | omega) (by first | decide | (dsimp only; omega) | omega) ?_
  intro t3
  refine Wk.static (q := 25) [_, _] _ 0 d7_22 rfl (hw _ (List.mem_of_getElem? (i := 55) rfl)) (hw _ (List.mem_of_getElem? (i := 56) rfl)) (hw _ (List.mem_of_getElem? (i := 57) rfl)) (hw _ (List.mem_of_getElem? (i := 58) rfl)) ar_5 (by decide) rfl rfl rfl rfl (ct_rnn hw hE) (by first | decide | (dsimp only; omega) | omega) (by first | decide | (dsimp only; omega) | omega) (by first | decide | (dsimp only; omega) | omega) (by first | decide | (dsimp only; omega) | omega) (kv ?_)
  rintro _ _ ⟨rfl, rfl⟩
  refine Wk.pop (q := 26) d7_25 rfl rfl ?_
  refine Wk.aload_n (q := 27) d7_26 rfl rfl (by first | rfl | assumption) ?_
  refine Wk.aload_n (q := 28) d7_27 rfl rfl (by first | rfl | assumption) ?_
  refine Wk.putfield (q := 31) (C := "com/example/tierwright/tierwright/InstrumentKind") (lay := layIK) 0 d7_28 rfl (hw _ (List.mem_of_getElem? (i := 61) rfl)) Via.refl (layIK_ok hw) (hw _ (List.mem_of_getElem? (i := 24) rfl)) (Or.inr ⟨(hw _ (List.mem_of_getElem? (i := 62) rfl)), rfl, rfl⟩) rfl (by decide +kernel : parseFieldDescriptor "Ljava/lang/String;" = some (.object "java/lang/String")) (by repeat (first | exact Ex.here | assumption | apply Ex.there)) (VS.here) (by first | rfl | exact narO) (by first | rfl | exact fitO (by assumption) | exact fitA (by assumption)) ?_
  refine Wk.aload_n (q := 32) d7_31 rfl rfl (by first | rfl | assumption) ?_
  refine Wk.aload_n (q := 33) d7_32 rfl rfl (by first | rfl | assumption) ?_
  refine Wk.putfield (q := 36) (C := "com/example/tierwright/tierwright/InstrumentKind") (lay := layIK) 1 d7_33 rfl (hw _ (List.mem_of_getElem? (i := 63) rfl)) Via.refl (layIK_ok hw) (hw _ (List.mem_of_getElem? (i := 24) rfl)) (Or.inr ⟨(hw _ (List.mem_of_getElem? (i := 64) rfl)), rfl, rfl⟩) rfl (by decide +kernel : parseFieldDescriptor "Lcom/example/tierwright/tierwright/MaturityDiscount;" = some (.object "com/example/tierwright/tierwright/MaturityDiscount")) (by repeat (first | exact Ex.here | assumption | apply Ex.there)) (VS.there (VS.here)) (by first | rfl | exact narO) (by first | rfl | exact fitO (by assumption) | exact fitA (by assumption)) ?_
  refine Wk.aload_n (q := 37) d7_36 rfl rfl (by first | rfl | assumption) ?_
  refine Wk.aload_n (q := 38) d7_37 rfl rfl (by first | rfl | assumption) ?_
  refine Wk.putfield (q := 41) (C := "com/example/tierwright/tierwright/InstrumentKind") (lay := layIK) 2 d7_38 rfl (hw _ (List.mem_of_getElem? (i := 65) rfl)) Via.refl (layIK_ok hw) (hw _ (List.mem_of_getElem? (i := 24) rfl)) (Or.inr ⟨(hw _ (List.mem_of_getElem? (i := 66) rfl)), rfl, rfl⟩) rfl (by decide +kernel : parseFieldDescriptor "Lcom/example/tierwright/tierwright/TermsScreen;" = some (.object "com/example/tierwright/tierwright/TermsScreen")) (by repeat (first | exact Ex.here | assumption | apply Ex.there)) (VS.there (VS.there (VS.here))) (by first | rfl | exact narO) (by first | rfl | exact fitO (by assumption) | exact fitA (by assumption)) ?_
  refine Wk.aload_n (q := 42) d7_41 rfl rfl (by first | rfl | assumption) ?_
  refine Wk.aload (q := 44) d7_42 rfl rfl (by first | rfl | assumption) ?_
  refine Wk.putfield (q := 47) (C := "com/example/tierwright/tierwright/InstrumentKind") (lay := layIK) 3 d7_44 rfl (hw _ (List.mem_of_getElem? (i := 67) rfl)) Via.refl (layIK_ok hw) (hw _ (List.mem_of_getElem? (i := 24) rfl)) (Or.inr ⟨(hw _ (List.mem_of_getElem? (i := 68) rfl)), rfl, rfl⟩) rfl (by decide +kernel : parseFieldDescriptor "Lcom/example/tierwright/tierwright/Cumulation;" = some (.object "com/example/tierwright/tierwright/Cumulation")) (by repeat (first | exact Ex.here | assumption | apply Ex.there)) (VS.there (VS.there (VS.there (VS.here)))) (by first | rfl | exact narO) (by first | rfl | exact fitO (by assumption) | exact fitA (by assumption)) ?_
  refine Wk.aload_n (q := 48) d7_47 rfl rfl (by first | rfl | assumption) ?_
  refine Wk.aload (q := 50) d7_48 rfl rfl (by first | rfl | assumption) ?_
  refine Wk.putfield (q := 53) (C := "com/example/tierwright/tierwright/InstrumentKind") (lay := layIK) 4 d7_50 rfl (hw _ (List.mem_of_getElem? (i := 69) rfl)) Via.refl (layIK_ok hw) (hw _ (List.mem_of_getElem? (i := 24) rfl)) (Or.inr ⟨(hw _ (List.mem_of_getElem? (i := 70) rfl)), rfl, rfl⟩) rfl (by decide +kernel : parseFieldDescriptor "Lcom/example/tierwright/tierwright/Denomination;" = some (.object "com/example/tierwright/tierwright/Denomination")) (by repeat (first | exact Ex.here | assumption | apply Ex.there)) (VS.there (VS.there (VS.there (VS.there (VS.here))))) (by first | rfl | exact narO) (by first | rfl | exact fitO (by assumption) | exact fitA (by assumption)) ?_
  refine Wk.aload_n (q := 54) d7_53 rfl rfl (by first | rfl | assumption) ?_
  refine Wk.aload (q := 56) d7_54 rfl rfl (by first | rfl | assumption) ?_
  refine Wk.putfield (q := 59) (C := "com/example/tierwright/tierwright/InstrumentKind") (lay := layIK) 5 d7_56 rfl (hw _ (List.mem_of_getElem? (i := 71) rfl)) Via.refl (layIK_ok hw) (hw _ (List.mem_of_getElem? (i := 24) rfl)) (Or.inr ⟨(hw _ (List.mem_of_getElem? (i := 72) rfl)), rfl, rfl⟩) rfl (by decide +kernel : parseFieldDescriptor "Lcom/example/tierwright/tierwright/RedemptionTerms;" = some (.object "com/example/tierwright/tierwright/RedemptionTerms")) (by repeat (first | exact Ex.here | assumption | apply Ex.there)) (VS.there (VS.there (VS.there (VS.there (VS.there (VS.here)))))) (by first | rfl | exact narO) (by first | rfl | exact fitO (by assumption) | exact fitA (by assumption)) ?_
  refine Wk.return_ d7_59 rfl ?_
  exact ⟨rfl, rfl⟩
set_option maxHeartbeats 4000000 in
theorem ct_IK5 {l : Launch} {Z : State} {a0 : Array Value} (hw : ∀ d ∈ tables_1, d.before a0 Z = true) (hE : EW Z a0 EL0) {L : Store} {a s md dn : Addr} {cu : Value} (hcu : cu.isRef = true) :
    Ct l Z EL0 (⟨"com/example/tierwright/tierwright/InstrumentKind", "<init>", "(Ljava/lang/String;Lcom/example/tierwright/tierwright/MaturityDiscount;Lcom/example/tierwright/tierwright/TermsScreen;Lcom/example/tierwright/tierwright/Cumulation;Lcom/example/tierwright/tierwright/Denomination;)V"⟩ : MethodName) prog_24_method_2_code 6 none ({ frames := 3, cells := 6, slots := 108, locals := 42 } : Room) #[.ref a, .ref s, .ref md, .null, cu, .ref dn] ((a, true, OB Z nIK layIK [.null, .null, .null, .null, .null, .null]) :: L) (R0 fun M => M = (a, true, OB Z nIK layIK [.ref s, .ref md, .null, cu, .ref dn, .null]) :: L) := by
  refine Ct.of (a0 := a0) (Ls := [.val (.ref _), .val (.ref _), .val (.ref _), .val .null, .val _, .val (.ref _)]) (plainFor_of_name pn_4) (fun m => ef_rrrnvr_6 m _ _ _ _ (by assumption) _) hE ?_
  refine Wk.aload_n (q := 1) d8_0 rfl rfl (by first | rfl | assumption) ?_
  refine Wk.aload_n (q := 2) d8_1 rfl rfl (by first | rfl | assumption) ?_
  refine Wk.aload_n (q := 3) d8_2 rfl rfl (by first | rfl | assumption) ?_
  refine Wk.aload_n (q := 4) d8_3 rfl rfl (by first | rfl | assumption) ?_
  refine Wk.aload (q := 6) d8_4 rfl rfl (by first | rfl | assumption) ?_
  refine Wk.aload (q := 8) d8_6 rfl rfl (by first | rfl | assumption) ?_
  refine Wk.aconst_null (q := 9) d8_8 rfl ?_
  refine Wk.special (q := 12) [_, _, _, _, _, _] _ 0 d8_9 rfl rfl (hw _ (List.mem_of_getElem? (i := 45) rfl)) (hw _ (List.mem_of_getElem? (i := 46) rfl)) (hw _ (List.mem_of_getElem? (i := 25) rfl)) (hw _ (List.mem_of_getElem? (i := 47) rfl)) ar_6 (by decide) rfl rfl rfl rfl (ct_IK6 hw hE hcu) (by first | decide | (dsimp only; omega) | omega) (by first | decide | (dsimp only; omega) | omega) (by first | decide | (dsimp only; omega) | omega) (by first | decide | (dsimp only; omega) | omega) (k0 ?_)
  rintro _ rfl
  refine Wk.return_ d8_12 rfl ?_
  exact ⟨rfl, rfl⟩
set_option maxHeartbeats 4000000 in
theorem ct_IK4 {l : Launch} {Z : State} {a0 : Array Value} (hw : ∀ d ∈ tables_1, d.before a0 Z = true) (hE : EW Z a0 EL0) {L : Store} {a s md dn : Addr} {cu : Value} (hcu : cu.isRef = true) (sta_RUPEES : Sta Z Z.heap "com/example/tierwright/tierwright/Denomination" "RUPEES" "Lcom/example/tierwright/tierwright/Denomination;" (.ref dn)) :
    Ct l Z EL0 (⟨"com/example/tierwright/tierwright/InstrumentKind", "<init>", "(Ljava/lang/String;Lcom/example/tierwright/tierwright/MaturityDiscount;Lcom/example/tierwright/tierwright/TermsScreen;Lcom/example/tierwright/tierwright/Cumulation;)V"⟩ : MethodName) prog_24_method_3_code 5 none ({ frames := 4, cells := 6, slots := 108, locals := 59 } : Room) #[.ref a, .ref s, .ref md, .null, cu] ((a, true, OB Z nIK layIK [.null, .null, .null, .null, .null, .null]) :: L) (R0 fun M => M = (a, true, OB Z nIK layIK [.ref s, .ref md, .null, cu, .ref dn, .null]) :: L) := by
  refine Ct.of (a0 := a0) (Ls := [.val (.ref _), .val (.ref _), .val (.ref _), .val .null, .val _]) (plainFor_of_name pn_4) (fun m => ef_rrrnv_5 m _ _ _ _ (by assumption)) hE ?_
  refine Wk.aload_n (q := 1) d9_0 rfl rfl (by first | rfl | assumption) ?_
  refine Wk.aload_n (q := 2) d9_1 rfl rfl (by first | rfl | assumption) ?_
  refine Wk.aload_n (q := 3) d9_2 rfl rfl (by first | rfl | assumption) ?_
  refine Wk.aload_n (q := 4) d9_3 rfl rfl (by first | rfl | assumption) ?_
  refine Wk.aload (q := 6) d9_4 rfl rfl (by first | rfl | assumption) ?_
  refine Wk.getstatic (q := 9) d9_6 rfl (hw _ (List.mem_of_getElem? (i := 39) rfl)) Via.refl sta_RUPEES ?_
  refine Wk.special (q := 12) [_, _, _, _, _] _ 0 d9_9 rfl rfl (hw _ (List.mem_of_getElem? (i := 42) rfl)) (hw _ (List.mem_of_getElem? (i := 43) rfl)) (hw _ (List.mem_of_getElem? (i := 25) rfl)) (hw _ (List.mem_of_getElem? (i := 44) rfl)) ar_7 (by decide) rfl rfl rfl rfl (ct_IK5 hw hE hcu) (by first | decide | (dsimp only; omega) | omega) (by first | decide | (dsimp only; omega) | omega) (by first | decide | (dsimp only; omega) | omega) (by first | decide | (dsimp only; omega) | omega) (k0 ?_)
  rintro _ rfl
  refine Wk.return_ d9_12 rfl ?_
  exact ⟨rfl, rfl⟩
set_option maxHeartbeats 4000000 in
theorem ct_IK2 {l : Launch} {Z : State} {a0 : Array Value} (hw : ∀ d ∈ tables_1, d.before a0 Z = true) (hE : EW Z a0 EL0) {L : Store} {a s md dn : Addr} (sta_RUPEES : Sta Z Z.heap "com/example/tierwright/tierwright/Denomination" "RUPEES" "Lcom/example/tierwright/tierwright/Denomination;" (.ref dn)) :
    Ct l Z EL0 (⟨"com/example/tierwright/tierwright/InstrumentKind", "<init>", "(Ljava/lang/String;Lcom/example/tierwright/tierwright/MaturityDiscount;)V"⟩ : MethodName) prog_24_method_5_code 3 none ({ frames := 5, cells := 6, slots := 108, locals := 75 } : Room) #[.ref a, .ref s, .ref md] ((a, true, OB Z nIK layIK [.null, .null, .null, .null, .null, .null]) :: L) (R0 fun M => M = (a, true, OB Z nIK layIK [.ref s, .ref md, .null, .null, .ref dn, .null]) :: L) := by
  refine Ct.of (a0 := a0) (Ls := [.val (.ref _), .val (.ref _), .val (.ref _)]) (plainFor_of_name pn_4) (fun m => ef_rrr_3 m _ _ _) hE ?_
  refine Wk.aload_n (q := 1) d10_0 rfl rfl (by first | rfl | assumption) ?_
  refine Wk.aload_n (q := 2) d10_1 rfl rfl (by first | rfl | assumption) ?_
  refine Wk.aload_n (q := 3) d10_2 rfl rfl (by first | rfl | assumption) ?_
  refine Wk.aconst_null (q := 4) d10_3 rfl ?_
  refine Wk.aconst_null (q := 5) d10_4 rfl ?_
  refine Wk.special (q := 8) [_, _, _, _] _ 0 d10_5 rfl rfl (hw _ (List.mem_of_getElem? (i := 36) rfl)) (hw _ (List.mem_of_getElem? (i := 37) rfl)) (hw _ (List.mem_of_getElem? (i := 25) rfl)) (hw _ (List.mem_of_getElem? (i := 38) rfl)) ar_8 (by decide) rfl rfl rfl rfl (ct_IK4 hw hE rfl sta_RUPEES) (by first | decide | (dsimp only; omega) | omega) (by first | decide | (dsimp only; omega) | omega) (by first | decide | (dsimp only; omega) | omega) (by first | decide | (dsimp only; omega) | omega) (k0 ?_)
  rintro _ rfl
  refine Wk.return_ d10_8 rfl ?_
  exact ⟨rfl, rfl⟩

abbrev nMD : String := "com/example/tierwright/tierwright/MaturityDiscount"
abbrev dMD : String := "Lcom/example/tierwright/tierwright/MaturityDiscount;"
abbrev nDN : String := "com/example/tierwright/tierwright/Denomination"
abbrev dDN : String := "Lcom/example/tierwright/tierwright/Denomination;"
theorem ct_disc {l : Launch} {Z : State} {a0 : Array Value} (hw : ∀ d ∈ tables_1, d.before a0 Z = true) (hE : EW Z a0 EL0) {L : Store} {a1 a2 a3 : Addr} (sta_PERPETUAL : Sta Z Z.heap nMD "PERPETUAL" dMD (.ref a1)) (sta_BANDS_INCLUDE_LOWER_EDGE : Sta Z Z.heap nMD "BANDS_INCLUDE_LOWER_EDGE" dMD (.ref a2)) (sta_ANNIVERSARY_TAKES_BAND_BELOW : Sta Z Z.heap nMD "ANNIVERSARY_TAKES_BAND_BELOW" dMD (.ref a3)) {i : Int32} :
    Ct l Z EL0 (⟨"com/example/tierwright/tierwright/InstrumentKindRedemptionDecidedPinLaw", "discountOf", "(I)Lcom/example/tierwright/tierwright/MaturityDiscount;"⟩ : MethodName) method_2_code 2 (some (.object "com/example/tierwright/tierwright/MaturityDiscount")) ({ frames := 0, cells := 0, slots := 0, locals := 0 } : Room) #[.int i] L (RV fun u M => (∃ md, u = .ref md) ∧ M = L) := by
  refine Ct.of (a0 := a0) (Ls := [.val (.int _), .unset]) (plainFor_of_name pn_5) (fun m => ef_i_2 m _) hE ?_
  refine Wk.iload_n (q := 1) d11_0 rfl rfl ?_
  refine Wk.ldc_int (q := 3) d11_1 rfl (hw _ (List.mem_of_getElem? (i := 0) rfl)) ?_
  refine Wk.iand (q := 4) d11_3 rfl ?_
  refine Wk.iconst (q := 5) (3) d11_4 rfl (by decide) ?_
  refine Wk.irem (q := 6) d11_5 rfl (by decide) ?_
  refine Wk.istore_n (q := 7) d11_6 rfl (LS1.there (LS1.here (by first | exact One.u | exact One.val rfl | assumption))) ?_
  refine Wk.iload_n (q := 8) d11_7 rfl rfl ?_
  refine Wk.if_s (q := 15) (q' := 11) d11_8 (by decide) (by decide) rfl ?_ ?_
  · intro _
    refine Wk.iload_n (q := 16) d11_15 rfl rfl ?_
    refine Wk.iconst (q := 17) (1) d11_16 rfl (by decide) ?_
    refine Wk.icmp_s (q := 24) (q' := 20) d11_17 (by decide) (by decide) rfl ?_ ?_
    · intro _
      refine Wk.getstatic (q := 27) d11_24 rfl (hw _ (List.mem_of_getElem? (i := 96) rfl)) Via.refl sta_ANNIVERSARY_TAKES_BAND_BELOW ?_
      refine Wk.areturn (t := (.object "com/example/tierwright/tierwright/MaturityDiscount")) d11_27 rfl rfl (by first | rfl | exact narO | exact narA) (by first | rfl | assumption) ?_
      exact ⟨_, rfl, ⟨_, rfl⟩, rfl⟩
    · intro _
      refine Wk.getstatic (q := 23) d11_20 rfl (hw _ (List.mem_of_getElem? (i := 94) rfl)) Via.refl sta_BANDS_INCLUDE_LOWER_EDGE ?_
      refine Wk.areturn (t := (.object "com/example/tierwright/tierwright/MaturityDiscount")) d11_23 rfl rfl (by first | rfl | exact narO | exact narA) (by first | rfl | assumption) ?_
      exact ⟨_, rfl, ⟨_, rfl⟩, rfl⟩
  · intro _
    refine Wk.getstatic (q := 14) d11_11 rfl (hw _ (List.mem_of_getElem? (i := 30) rfl)) Via.refl sta_PERPETUAL ?_
    refine Wk.areturn (t := (.object "com/example/tierwright/tierwright/MaturityDiscount")) d11_14 rfl rfl (by first | rfl | exact narO | exact narA) (by first | rfl | assumption) ?_
    exact ⟨_, rfl, ⟨_, rfl⟩, rfl⟩
theorem ct_rd {l : Launch} {Z : State} {a0 : Array Value} (hw : ∀ d ∈ tables_1, d.before a0 Z = true) (hE : EW Z a0 EL0) {L : Store} {a : Addr} {f : Bool} {v0 v1 v2 v3 v4 : Value} (hm : (a, f, OB Z nIK layIK [v0, v1, v2, v3, v4, .null]) ∈ L) : Ct l Z EL0 (⟨"com/example/tierwright/tierwright/InstrumentKind", "redemptionDecided", "()Z"⟩ : MethodName) prog_24_method_8_code 1 (some .boolean) ({ frames := 0, cells := 0, slots := 0, locals := 0 } : Room) #[.ref a] L (RV fun u M => u = .int 0 ∧ M = L) := by
  refine Ct.of (a0 := a0) (Ls := [.val (.ref _)]) (plainFor_of_name pn_4) (fun m => ef_r_1 m _) hE ?_
  refine Wk.aload_n (q := 1) d12_0 rfl rfl (by first | rfl | assumption) ?_
  refine Wk.getfield (q := 4) (C := "com/example/tierwright/tierwright/InstrumentKind") (lay := layIK) 5 d12_1 rfl (hw _ (List.mem_of_getElem? (i := 71) rfl)) Via.refl (by repeat (first | exact List.mem_cons_self | assumption | refine List.mem_cons_of_mem _ ?_)) rfl (by rfl) ?_
  refine Wk.null_t (q := 11) d12_4 (by decide) (by decide)  ?_
  refine Wk.iconst (q := 12) (0) d12_11 rfl (by decide) ?_
  refine Wk.ireturn (t := .boolean) d12_12 rfl (by simp) (by rfl) ?_
  exact ⟨_, rfl, rfl, rfl⟩
theorem ct_rt {l : Launch} {Z : State} {a0 : Array Value} (hw : ∀ d ∈ tables_1, d.before a0 Z = true) (hE : EW Z a0 EL0) {L : Store} {a : Addr} {f : Bool} {v0 v1 v2 v3 v4 : Value} (hm : (a, f, OB Z nIK layIK [v0, v1, v2, v3, v4, .null]) ∈ L) : Ct l Z EL0 (⟨"com/example/tierwright/tierwright/InstrumentKind", "redemptionTerms", "()Lcom/example/tierwright/tierwright/RedemptionTerms;"⟩ : MethodName) prog_24_method_17_code 1 (some (.object "com/example/tierwright/tierwright/RedemptionTerms")) ({ frames := 0, cells := 0, slots := 0, locals := 0 } : Room) #[.ref a] L (RV fun u M => u = .null ∧ M = L) := by
  refine Ct.of (a0 := a0) (Ls := [.val (.ref _)]) (plainFor_of_name pn_4) (fun m => ef_r_1 m _) hE ?_
  refine Wk.aload_n (q := 1) d13_0 rfl rfl (by first | rfl | assumption) ?_
  refine Wk.getfield (q := 4) (C := "com/example/tierwright/tierwright/InstrumentKind") (lay := layIK) 5 d13_1 rfl (hw _ (List.mem_of_getElem? (i := 71) rfl)) Via.refl (by repeat (first | exact List.mem_cons_self | assumption | refine List.mem_cons_of_mem _ ?_)) rfl (by rfl) ?_
  refine Wk.areturn (t := (.object "com/example/tierwright/tierwright/RedemptionTerms")) d13_4 rfl rfl (by first | rfl | exact narO | exact narA) (by first | rfl | assumption) ?_
  exact ⟨_, rfl, rfl, rfl⟩
set_option maxRecDepth 65536 in
set_option maxHeartbeats 4000000 in
theorem ct_law {l : Launch} {Z : State} {a0 : Array Value} (hw : ∀ d ∈ tables_1, d.before a0 Z = true) (hE : EW Z a0 EL0) (F : ∃ z, z ≠ (0 : Int32) ∧ Sta Z Z.heap "java/lang/String" "COMPACT_STRINGS" "Z" (.int z)) {a1 a2 a3 a6 : Addr}
    (sta_PERPETUAL : Sta Z Z.heap nMD "PERPETUAL" dMD (.ref a1)) (sta_BANDS_INCLUDE_LOWER_EDGE : Sta Z Z.heap nMD "BANDS_INCLUDE_LOWER_EDGE" dMD (.ref a2)) (sta_ANNIVERSARY_TAKES_BAND_BELOW : Sta Z Z.heap nMD "ANNIVERSARY_TAKES_BAND_BELOW" dMD (.ref a3)) (sta_RUPEES : Sta Z Z.heap nDN "RUPEES" dDN (.ref a6)) (i0 i1 i2 i3 i4 : Int32) :
    Ct l Z EL0 x code 9 (some .boolean) room_1 #[.int i0, .int i1, .int i2, .int i3, .int i4] [] (RV fun u M => u = .int 1) := by
  refine Ct.of (a0 := a0) (Ls := [.val (.int _), .val (.int _), .val (.int _), .val (.int _), .val (.int _), .unset, .unset, .unset, .unset]) (plainFor_of_name pn_5) (fun m => ef_iiiii_9 m _ _ _ _ _) hE ?_
  have join : ∀ (ca : Addr) (n : Int32) (cs : List Int32), Lat cs → cs.length ≤ 3 → Wk l Z a0 EL0 x code 9 (some .boolean) room_1 (RV fun u M => u = .int 1) [(ca, true, AR Z .char (cs.map .int))] 20 200 61 [.val (.int i0), .val (.int i1), .val (.int i2), .val (.int i3), .val (.int i4), .val (.int n), .val (.ref ca), .unset, .unset] [] := by
    intro ca n cs hc hl
    refine Wk.new (q := 64) at_61 rfl (hw _ (List.mem_of_getElem? (i := 2) rfl)) (hw _ (List.mem_of_getElem? (i := 3) rfl)) (hw _ (List.mem_of_getElem? (i := 4) rfl)) (layS_ok hw) layS_dv (by first | decide | (dsimp only; omega) | omega) (by first | decide | (dsimp only; omega) | omega) ?_
    intro sa
    refine Wk.dup (q := 65) at_64 rfl rfl ?_
    refine Wk.aload (q := 67) at_65 rfl rfl (by first | rfl | assumption) ?_
    refine Wk.special (q := 70) [_] _ 1 at_67 rfl rfl (hw _ (List.mem_of_getElem? (i := 5) rfl)) (hw _ (List.mem_of_getElem? (i := 6) rfl)) (hw _ (List.mem_of_getElem? (i := 4) rfl)) (hw _ (List.mem_of_getElem? (i := 7) rfl)) ar_9 (by decide) rfl rfl rfl rfl (ct_strInitG hw hE F hc 3 hl (by omega) List.mem_cons_self) (by first | decide | (dsimp only; omega) | omega) (by first | decide | (dsimp only; omega) | omega) (by first | decide | (dsimp only; omega) | omega) (by first | decide | (dsimp only; omega) | omega) (k0 ?_)
    rintro _ ⟨b, fb, rfl⟩
    refine Wk.astore (q := 72) at_70 rfl (by first | rfl | assumption) (LS1.there (LS1.there (LS1.there (LS1.there (LS1.there (LS1.there (LS1.there (LS1.here (by first | exact One.u | exact One.val rfl | assumption))))))))) ?_
    refine Wk.new (q := 75) at_72 rfl (hw _ (List.mem_of_getElem? (i := 23) rfl)) (hw _ (List.mem_of_getElem? (i := 24) rfl)) (hw _ (List.mem_of_getElem? (i := 25) rfl)) (layIK_ok hw) layIK_dv (by first | decide | (dsimp only; omega) | omega) (by first | decide | (dsimp only; omega) | omega) ?_
    intro k
    refine Wk.dup (q := 76) at_75 rfl rfl ?_
    refine Wk.aload (q := 78) at_76 rfl rfl (by first | rfl | assumption) ?_
    refine Wk.iload (q := 80) at_78 rfl rfl ?_
    refine Wk.static (q := 83) [_] _ 3 at_80 rfl (hw _ (List.mem_of_getElem? (i := 26) rfl)) (hw _ (List.mem_of_getElem? (i := 27) rfl)) (hw _ (List.mem_of_getElem? (i := 28) rfl)) (hw _ (List.mem_of_getElem? (i := 29) rfl)) ar_10 (by decide) rfl rfl rfl rfl (ct_disc hw hE sta_PERPETUAL sta_BANDS_INCLUDE_LOWER_EDGE sta_ANNIVERSARY_TAKES_BAND_BELOW) (by first | decide | (dsimp only; omega) | omega) (by first | decide | (dsimp only; omega) | omega) (by first | decide | (dsimp only; omega) | omega) (by first | decide | (dsimp only; omega) | omega) (kv ?_)
    rintro _ _ ⟨⟨md, rfl⟩, rfl⟩
    refine Wk.special (q := 86) [_, _] _ 1 at_83 rfl rfl (hw _ (List.mem_of_getElem? (i := 33) rfl)) (hw _ (List.mem_of_getElem? (i := 34) rfl)) (hw _ (List.mem_of_getElem? (i := 25) rfl)) (hw _ (List.mem_of_getElem? (i := 35) rfl)) ar_11 (by decide) rfl rfl rfl rfl (ct_IK2 hw hE sta_RUPEES) (by first | decide | (dsimp only; omega) | omega) (by first | decide | (dsimp only; omega) | omega) (by first | decide | (dsimp only; omega) | omega) (by first | decide | (dsimp only; omega) | omega) (k0 ?_)
    rintro _ rfl
    refine Wk.astore (q := 88) at_86 rfl (by first | rfl | assumption) (LS1.there (LS1.there (LS1.there (LS1.there (LS1.there (LS1.there (LS1.there (LS1.there (LS1.here (by first | exact One.u | exact One.val rfl | assumption)))))))))) ?_
    refine Wk.aload (q := 90) at_88 rfl rfl (by first | rfl | assumption) ?_
    refine Wk.virtual (q := 93) (C := "com/example/tierwright/tierwright/InstrumentKind") [] _ 0 at_90 rfl (hw _ (List.mem_of_getElem? (i := 73) rfl)) (hw _ (List.mem_of_getElem? (i := 74) rfl)) (hw _ (List.mem_of_getElem? (i := 76) rfl)) (hw _ (List.mem_of_getElem? (i := 75) rfl)) (hw _ (List.mem_of_getElem? (i := 25) rfl)) (hw _ (List.mem_of_getElem? (i := 77) rfl)) ar_12 (by decide) (nfSel (hw _ (List.mem_of_getElem? (i := 76) rfl))) (by repeat (first | exact List.mem_cons_self | assumption | refine List.mem_cons_of_mem _ ?_)) rfl rfl rfl rfl (ct_rd hw hE List.mem_cons_self) (by first | decide | (dsimp only; omega) | omega) (by first | decide | (dsimp only; omega) | omega) (by first | decide | (dsimp only; omega) | omega) (by first | decide | (dsimp only; omega) | omega) (kv ?_)
    rintro _ _ ⟨rfl, rfl⟩
    refine Wk.if_f (q := 96) at_93 rfl (by decide) ?_
    refine Wk.aload (q := 98) at_96 rfl rfl (by first | rfl | assumption) ?_
    refine Wk.virtual (q := 101) (C := "com/example/tierwright/tierwright/InstrumentKind") [] _ 0 at_98 rfl (hw _ (List.mem_of_getElem? (i := 78) rfl)) (hw _ (List.mem_of_getElem? (i := 79) rfl)) (hw _ (List.mem_of_getElem? (i := 81) rfl)) (hw _ (List.mem_of_getElem? (i := 80) rfl)) (hw _ (List.mem_of_getElem? (i := 25) rfl)) (hw _ (List.mem_of_getElem? (i := 82) rfl)) ar_13 (by decide) (nfSel (hw _ (List.mem_of_getElem? (i := 81) rfl))) (by repeat (first | exact List.mem_cons_self | assumption | refine List.mem_cons_of_mem _ ?_)) rfl rfl rfl rfl (ct_rt hw hE List.mem_cons_self) (by first | decide | (dsimp only; omega) | omega) (by first | decide | (dsimp only; omega) | omega) (by first | decide | (dsimp only; omega) | omega) (by first | decide | (dsimp only; omega) | omega) (kv ?_)
    rintro _ _ ⟨rfl, rfl⟩
    refine Wk.nonnull_f (q := 104) at_101 rfl  ?_
    refine Wk.iconst (q := 105) (1) at_104 rfl (by decide) ?_
    refine Wk.goto (q := 109) at_105 (by decide) (by decide) ?_
    refine Wk.ireturn (t := .boolean) at_109 rfl (by simp) (by rfl) ?_
    exact ⟨_, rfl, rfl⟩
  refine Wk.iload_n (q := 1) at_0 rfl rfl ?_
  refine Wk.ldc_int (q := 3) at_1 rfl (hw _ (List.mem_of_getElem? (i := 0) rfl)) ?_
  refine Wk.iand (q := 4) at_3 rfl ?_
  refine Wk.iconst (q := 5) (4) at_4 rfl (by decide) ?_
  refine Wk.irem (q := 6) at_5 rfl (by decide) ?_
  rcases rem4 i0 with h | h | h | h
  all_goals rw [h]
  · refine Wk.istore (q := 8) at_6 rfl (LS1.there (LS1.there (LS1.there (LS1.there (LS1.there (LS1.here (by first | exact One.u | exact One.val rfl | assumption))))))) ?_
    refine Wk.iload (q := 10) at_8 rfl rfl ?_
    refine Wk.newarray (q := 12) .char (0) [] at_10 rfl rfl rfl (hw _ (List.mem_of_getElem? (i := 1) rfl)) (by decide) (by decide) (by decide) (by first | decide | (dsimp only; omega) | omega) (by first | decide | (dsimp only; omega) | omega) ?_
    intro ca
    refine Wk.astore (q := 14) at_12 rfl (by first | rfl | assumption) (LS1.there (LS1.there (LS1.there (LS1.there (LS1.there (LS1.there (LS1.here (by first | exact One.u | exact One.val rfl | assumption)))))))) ?_
    refine Wk.iload (q := 16) at_14 rfl rfl ?_
    refine Wk.if_t (q := 29) at_16 (by decide) (by decide) (by decide) ?_
    refine Wk.iload (q := 31) at_29 rfl rfl ?_
    refine Wk.iconst (q := 32) (1) at_31 rfl (by decide) ?_
    refine Wk.icmp_t (q := 45) at_32 (by decide) (by decide) (by decide) ?_
    refine Wk.iload (q := 47) at_45 rfl rfl ?_
    refine Wk.iconst (q := 48) (2) at_47 rfl (by decide) ?_
    refine Wk.icmp_t (q := 61) at_48 (by decide) (by decide) (by decide) ?_
    exact (join ca 0 [] lat_nil (by decide)).mono (by decide) (by decide)
  · refine Wk.istore (q := 8) at_6 rfl (LS1.there (LS1.there (LS1.there (LS1.there (LS1.there (LS1.here (by first | exact One.u | exact One.val rfl | assumption))))))) ?_
    refine Wk.iload (q := 10) at_8 rfl rfl ?_
    refine Wk.newarray (q := 12) .char (1) [(.int 0)] at_10 rfl rfl rfl (hw _ (List.mem_of_getElem? (i := 1) rfl)) (by decide) (by decide) (by decide) (by first | decide | (dsimp only; omega) | omega) (by first | decide | (dsimp only; omega) | omega) ?_
    intro ca
    refine Wk.astore (q := 14) at_12 rfl (by first | rfl | assumption) (LS1.there (LS1.there (LS1.there (LS1.there (LS1.there (LS1.there (LS1.here (by first | exact One.u | exact One.val rfl | assumption)))))))) ?_
    refine Wk.iload (q := 16) at_14 rfl rfl ?_
    refine Wk.if_f (q := 19) at_16 rfl (by decide) ?_
    refine Wk.aload (q := 21) at_19 rfl rfl (by first | rfl | assumption) ?_
    refine Wk.iconst (q := 22) (0) at_21 rfl (by decide) ?_
    refine Wk.iload_n (q := 23) at_22 rfl rfl ?_
    refine Wk.sipush (q := 26) (255) at_23 rfl (by decide) ?_
    refine Wk.iand (q := 27) at_26 rfl ?_
    refine Wk.i2c (q := 28) at_27 rfl ?_
    rw [i2c_mask]
    refine Wk.castore (q := 29) (0) at_28 rfl (by repeat (first | exact Ex.here | assumption | apply Ex.there)) (by decide) (by decide) (nchar_mask _) (VS.here) ?_
    refine Wk.iload (q := 31) at_29 rfl rfl ?_
    refine Wk.iconst (q := 32) (1) at_31 rfl (by decide) ?_
    refine Wk.icmp_t (q := 45) at_32 (by decide) (by decide) (by decide) ?_
    refine Wk.iload (q := 47) at_45 rfl rfl ?_
    refine Wk.iconst (q := 48) (2) at_47 rfl (by decide) ?_
    refine Wk.icmp_t (q := 61) at_48 (by decide) (by decide) (by decide) ?_
    exact (join ca 1 [_] (lat_cons (mask_lat i1) lat_nil) (by simp)).mono (by decide) (by decide)
  · refine Wk.istore (q := 8) at_6 rfl (LS1.there (LS1.there (LS1.there (LS1.there (LS1.there (LS1.here (by first | exact One.u | exact One.val rfl | assumption))))))) ?_
    refine Wk.iload (q := 10) at_8 rfl rfl ?_
    refine Wk.newarray (q := 12) .char (2) [(.int 0), (.int 0)] at_10 rfl rfl rfl (hw _ (List.mem_of_getElem? (i := 1) rfl)) (by decide) (by decide) (by decide) (by first | decide | (dsimp only; omega) | omega) (by first | decide | (dsimp only; omega) | omega) ?_
    intro ca
    refine Wk.astore (q := 14) at_12 rfl (by first | rfl | assumption) (LS1.there (LS1.there (LS1.there (LS1.there (LS1.there (LS1.there (LS1.here (by first | exact One.u | exact One.val rfl | assumption)))))))) ?_
    refine Wk.iload (q := 16) at_14 rfl rfl ?_
    refine Wk.if_f (q := 19) at_16 rfl (by decide) ?_
    refine Wk.aload (q := 21) at_19 rfl rfl (by first | rfl | assumption) ?_
    refine Wk.iconst (q := 22) (0) at_21 rfl (by decide) ?_
    refine Wk.iload_n (q := 23) at_22 rfl rfl ?_
    refine Wk.sipush (q := 26) (255) at_23 rfl (by decide) ?_
    refine Wk.iand (q := 27) at_26 rfl ?_
    refine Wk.i2c (q := 28) at_27 rfl ?_
    rw [i2c_mask]
    refine Wk.castore (q := 29) (0) at_28 rfl (by repeat (first | exact Ex.here | assumption | apply Ex.there)) (by decide) (by decide) (nchar_mask _) (VS.here) ?_
    refine Wk.iload (q := 31) at_29 rfl rfl ?_
    refine Wk.iconst (q := 32) (1) at_31 rfl (by decide) ?_
    refine Wk.icmp_f (q := 35) at_32 rfl (by decide) ?_
    refine Wk.aload (q := 37) at_35 rfl rfl (by first | rfl | assumption) ?_
    refine Wk.iconst (q := 38) (1) at_37 rfl (by decide) ?_
    refine Wk.iload_n (q := 39) at_38 rfl rfl ?_
    refine Wk.sipush (q := 42) (255) at_39 rfl (by decide) ?_
    refine Wk.iand (q := 43) at_42 rfl ?_
    refine Wk.i2c (q := 44) at_43 rfl ?_
    rw [i2c_mask]
    refine Wk.castore (q := 45) (1) at_44 rfl (by repeat (first | exact Ex.here | assumption | apply Ex.there)) (by decide) (by decide) (nchar_mask _) (VS.there (VS.here)) ?_
    refine Wk.iload (q := 47) at_45 rfl rfl ?_
    refine Wk.iconst (q := 48) (2) at_47 rfl (by decide) ?_
    refine Wk.icmp_t (q := 61) at_48 (by decide) (by decide) (by decide) ?_
    exact (join ca 2 [_, _] (lat_cons (mask_lat i1) (lat_cons (mask_lat i2) lat_nil)) (by simp)).mono (by decide) (by decide)
  · refine Wk.istore (q := 8) at_6 rfl (LS1.there (LS1.there (LS1.there (LS1.there (LS1.there (LS1.here (by first | exact One.u | exact One.val rfl | assumption))))))) ?_
    refine Wk.iload (q := 10) at_8 rfl rfl ?_
    refine Wk.newarray (q := 12) .char (3) [(.int 0), (.int 0), (.int 0)] at_10 rfl rfl rfl (hw _ (List.mem_of_getElem? (i := 1) rfl)) (by decide) (by decide) (by decide) (by first | decide | (dsimp only; omega) | omega) (by first | decide | (dsimp only; omega) | omega) ?_
    intro ca
    refine Wk.astore (q := 14) at_12 rfl (by first | rfl | assumption) (LS1.there (LS1.there (LS1.there (LS1.there (LS1.there (LS1.there (LS1.here (by first | exact One.u | exact One.val rfl | assumption)))))))) ?_
    refine Wk.iload (q := 16) at_14 rfl rfl ?_
    refine Wk.if_f (q := 19) at_16 rfl (by decide) ?_
    refine Wk.aload (q := 21) at_19 rfl rfl (by first | rfl | assumption) ?_
    refine Wk.iconst (q := 22) (0) at_21 rfl (by decide) ?_
    refine Wk.iload_n (q := 23) at_22 rfl rfl ?_
    refine Wk.sipush (q := 26) (255) at_23 rfl (by decide) ?_
    refine Wk.iand (q := 27) at_26 rfl ?_
    refine Wk.i2c (q := 28) at_27 rfl ?_
    rw [i2c_mask]
    refine Wk.castore (q := 29) (0) at_28 rfl (by repeat (first | exact Ex.here | assumption | apply Ex.there)) (by decide) (by decide) (nchar_mask _) (VS.here) ?_
    refine Wk.iload (q := 31) at_29 rfl rfl ?_
    refine Wk.iconst (q := 32) (1) at_31 rfl (by decide) ?_
    refine Wk.icmp_f (q := 35) at_32 rfl (by decide) ?_
    refine Wk.aload (q := 37) at_35 rfl rfl (by first | rfl | assumption) ?_
    refine Wk.iconst (q := 38) (1) at_37 rfl (by decide) ?_
    refine Wk.iload_n (q := 39) at_38 rfl rfl ?_
    refine Wk.sipush (q := 42) (255) at_39 rfl (by decide) ?_
    refine Wk.iand (q := 43) at_42 rfl ?_
    refine Wk.i2c (q := 44) at_43 rfl ?_
    rw [i2c_mask]
    refine Wk.castore (q := 45) (1) at_44 rfl (by repeat (first | exact Ex.here | assumption | apply Ex.there)) (by decide) (by decide) (nchar_mask _) (VS.there (VS.here)) ?_
    refine Wk.iload (q := 47) at_45 rfl rfl ?_
    refine Wk.iconst (q := 48) (2) at_47 rfl (by decide) ?_
    refine Wk.icmp_f (q := 51) at_48 rfl (by decide) ?_
    refine Wk.aload (q := 53) at_51 rfl rfl (by first | rfl | assumption) ?_
    refine Wk.iconst (q := 54) (2) at_53 rfl (by decide) ?_
    refine Wk.iload_n (q := 55) at_54 rfl rfl ?_
    refine Wk.sipush (q := 58) (255) at_55 rfl (by decide) ?_
    refine Wk.iand (q := 59) at_58 rfl ?_
    refine Wk.i2c (q := 60) at_59 rfl ?_
    rw [i2c_mask]
    refine Wk.castore (q := 61) (2) at_60 rfl (by repeat (first | exact Ex.here | assumption | apply Ex.there)) (by decide) (by decide) (nchar_mask _) (VS.there (VS.there (VS.here))) ?_
    exact (join ca 3 [_, _, _] (lat_cons (mask_lat i1) (lat_cons (mask_lat i2) (lat_cons (mask_lat i3) lat_nil))) (by simp)).mono (by decide) (by decide)
set_option maxRecDepth 65536 in
set_option maxHeartbeats 4000000 in
theorem comes_1 {Post : Tables → Env → Array Value → State → Outcome → State → Prop} (hpost : ∀ tb e args s v u, (limb_1_1.after args s (.returned v) u = true ∧ limb_1_2.after args s (.returned v) u = true) → ReturnedEndW s (.returned v) u (Jvm.fieldLocs frame_1_writes args s ++ Jvm.arrayLocs frame_1_arrays args s ++ Jvm.staticLocs frame_1_statics s) 24 4224 → Post tb e args s (.returned v) u) :
    ArmFor flags0 classFile x code maxLocals ret World_1 tables_1 room_1 Calls_1 rest_1 Pre_1 Post := by
  intro l hfl _ _ p e ha hc hk s m args below hf hA hF happ hP
  obtain ⟨hcalls, hrest, hpre⟩ := hP
  obtain ⟨-, -, -, hnamed, -, -, -, hat⟩ := (Spec.applies_iff hf).mp happ
  obtain ⟨hg, hn⟩ := and_e (Cond.before_iff.mp (show (Jvm.Cond.and given_1 narrow_1).before args s = true from hpre))
  obtain ⟨g_n, gr⟩ := and_e hg
  obtain ⟨g0, gr⟩ := and_e gr
  obtain ⟨g1, gr⟩ := and_e gr
  obtain ⟨g2, gr⟩ := and_e gr
  obtain ⟨g3, gr⟩ := and_e gr
  have g4 := gr
  obtain ⟨w0, w1, w2, w3, w4, rfl⟩ : ∃ w0 w1 w2 w3 w4 : Value, args = #[w0, w1, w2, w3, w4] := by
    have hs : args.size = 5 := by simpa [Cond.value, given_1] using g_n
    obtain ⟨L⟩ := args
    match L, hs with
    | [w0, w1, w2, w3, w4], _ => exact ⟨w0, w1, w2, w3, w4, rfl⟩
  obtain ⟨i0, ei0⟩ := is_v g0
  obtain rfl : w0 = (.int i0) := Option.some.inj ei0
  obtain ⟨i1, ei1⟩ := is_v g1
  obtain rfl : w1 = (.int i1) := Option.some.inj ei1
  obtain ⟨i2, ei2⟩ := is_v g2
  obtain rfl : w2 = (.int i2) := Option.some.inj ei2
  obtain ⟨i3, ei3⟩ := is_v g3
  obtain rfl : w3 = (.int i3) := Option.some.inj ei3
  obtain ⟨i4, ei4⟩ := is_v g4
  obtain rfl : w4 = (.int i4) := Option.some.inj ei4
  have hw := fun d (hd : d ∈ tables_1) => atoms_spec (ws := Jvm.Cond.code x code maxLocals ret :: tables_1) hat d (List.mem_cons_of_mem _ hd)
  obtain ⟨hsets, hown0⟩ := atoms_of _ (rest_1_c_eq ▸ (show rest_1_c.before _ s = true from hrest))
  have F := compact (hsets _ (List.mem_of_getElem? (i := 0) rfl)) (hsets _ (List.mem_of_getElem? (i := 1) rfl)) (hsets _ (List.mem_of_getElem? (i := 2) rfl))
  have hE : EW s _ EL0 := (EW.cons (hw _ (List.mem_of_getElem? (i := 54) rfl)) (by decide +kernel) (EW.cons (hw _ (List.mem_of_getElem? (i := 59) rfl)) (by decide +kernel) (EW.cons (hw _ (List.mem_of_getElem? (i := 60) rfl)) (by decide +kernel) (EW.cons (hw _ (List.mem_of_getElem? (i := 15) rfl)) (by decide +kernel) EW.nil))))
  have hheld : constsHeld consts_1 s := hcalls.1
  have hCH : CHv s EL0 s.vm s.heap := CHv.start hE (fun p hp => hheld p hp) (hsets _ (List.mem_of_getElem? (i := 2) rfl)) (hw _ (List.mem_of_getElem? (i := 16) rfl)) (hw _ (List.mem_of_getElem? (i := 3) rfl))
  have hI : Inv s EL0 s.vm s.heap [] := ⟨⟨Nat.le_refl _, fun _ _ q => q⟩, hCH, (fun o ho => nomatch ho), (fun o ho => nomatch ho), List.Pairwise.nil⟩
  obtain ⟨n1, hn⟩ := and_e hn
  obtain ⟨n2, hn⟩ := and_e hn
  obtain ⟨n3, n5⟩ := and_e hn
  obtain ⟨a1, s1, -⟩ := staOf n1 (hw _ (List.mem_of_getElem? (i := 31) rfl)) (hw _ (List.mem_of_getElem? (i := 32) rfl))
  obtain ⟨a6, s6, -⟩ := staOf n2 (hw _ (List.mem_of_getElem? (i := 40) rfl)) (hw _ (List.mem_of_getElem? (i := 41) rfl))
  obtain ⟨a2, s2, -⟩ := staOf n3 (hw _ (List.mem_of_getElem? (i := 31) rfl)) (hw _ (List.mem_of_getElem? (i := 95) rfl))
  obtain ⟨a3, s3, -⟩ := staOf n5 (hw _ (List.mem_of_getElem? (i := 31) rfl)) (hw _ (List.mem_of_getElem? (i := 97) rfl))
  obtain ⟨n, o, h1, h2, h3, v, Lc, L', rfl, ⟨u, rfl, rfl⟩, -, N, hq⟩ := ct_law hw hE F s1 s2 s3 s6 i0 i1 i2 i3 i4 tables_1 p e ha hc hk s m _ below hf ((Spec.applies_iff_loose hf).mp happ).1 ⟨rfl, State.Warmed39.refl s, hI⟩ trivial
  exact ⟨n, _, h1, h2, h3, hpost _ _ _ _ _ _ ⟨Cond.after_iff.mpr rfl, Cond.after_iff.mpr (eq_i res_at (Term.int_eval (1)) rfl)⟩ ⟨hq.1, hq.2.1, hq.2.2.1, (hq.2.2.2.sift fun y hy => Or.inr (N y hy)).mono (by decide) (by decide)⟩⟩
theorem main_1_1 : Claimed_1_1 := comes_1 fun _ _ _ _ _ _ h hF => ⟨h.1, hF⟩
theorem main_1_2 : Claimed_1_2 := comes_1 fun _ _ _ _ _ _ h hF => ⟨h.2, hF⟩

end Jvm.Pilot.@@N@@
namespace Jvm.Pilot.@@N@@
open Jvm Jvm.ClassFile Sem Op Lib Jvm.Free Jvm.Stand Jvm.Pilot.@@N@@.Jvm.D
/-! MADE BY PROGRAM (witnessworld.py) out of the Statement's table words and the real class files: 25 classes; the members and pool entries that the words name. The judged class is class 1, her method 2. -/
namespace start1
open Jvm.ClassFile
def u (s : String) : CpInfo := .utf8 (stringToUtf16 s)
/-- a pool by its gaps: so many unusable entries, then the entry; so many at the end -/
def gap : Nat → List CpInfo → List CpInfo
  | 0, r => r
  | n + 1, r => .unusable :: gap n r
def poolList (es : List (Nat × CpInfo)) (last : Nat) : List CpInfo := es.foldr (fun e r => gap e.1 (e.2 :: r)) (gap last [])
def pool (es : List (Nat × CpInfo)) (last : Nat) : Array CpInfo := ⟨poolList es last⟩
def fileOf (pool : Array CpInfo) (this : Nat) (attrs : Array Attribute := #[]) (ms : Array MethodInfo := #[]) (fl : Nat := 33) (sup : Nat := 0) (ifs : Array Nat := #[]) (fds : Array FieldInfo := #[]) : ClassFile where
  minorVersion := 0
  majorVersion := 65
  constantPool := pool
  accessFlags := fl
  thisClass := this
  superClass := sup
  interfaces := ifs
  fields := fds
  methods := ms
  attributes := attrs
def plain (name : String) (sup : Option ClassId) : Class where
  name := name
  kind := .ordinary
  loader := none
  accessFlags := 33
  super := sup
  interfaces := #[]
  cf := none
  fields := #[]
  methods := #[]
  instanceTypes := #[]
  staticTypes := #[]
  resolved := #[]
  callSites := []
  init := .initialized
  statics := none
  mirror := none

def pool0 : Array CpInfo := pool [(5, u "<init>"), (0, u "()V"), (1, .class_ 10), (1, u "java/lang/Object")] 113

def k0c0 : Code := { maxStack := 0, maxLocals := 1, code := object_method_1_code, exceptionTable := #[], attributes := #[] }
def k0m0 : Method := { name := "<init>", desc := "()V", sig := { parameters := [], returnType := none }, accessFlags := 1, code := some k0c0 }
/-- java/lang/Object -/
def k0 : Class := { plain "java/lang/Object" none with
  accessFlags := 33
  interfaces := #[]
  cf := some (fileOf pool0 8 #[] #[{ accessFlags := 1, nameIndex := 5, descriptorIndex := 6, attributes := #[] }] 33 0 #[] #[])
  fields := #[]
  methods := #[k0m0]
  instanceTypes := #[]
  staticTypes := #[]
  resolved := Array.replicate 124 none
  statics := none }

def pool1 : Array CpInfo := pool [(2, .class_ 4), (1, u "java/lang/Object"), (0, u "<init>"), (0, u "()V"), (0, .integer 2147483647), (0, .fieldref 9 10), (0, .class_ 11), (0, .nameAndType 12 13), (0, u "com/example/tierwright/tierwright/MaturityDiscount"), (0, u "PERPETUAL"), (0, u "Lcom/example/tierwright/tierwright/MaturityDiscount;"), (0, .fieldref 9 15), (0, .nameAndType 16 13), (0, u "BANDS_INCLUDE_LOWER_EDGE"), (0, .fieldref 9 18), (0, .nameAndType 19 13), (0, u "ANNIVERSARY_TAKES_BAND_BELOW"), (0, .class_ 21), (0, u "java/lang/String"), (0, .methodref 20 23), (0, .nameAndType 5 24), (0, u "([C)V"), (0, .class_ 26), (0, u "com/example/tierwright/tierwright/InstrumentKind"), (0, .methodref 28 29), (0, .class_ 30), (0, .nameAndType 31 32), (0, u "com/example/tierwright/tierwright/InstrumentKindRedemptionDecidedPinLaw"), (0, u "discountOf"), (0, u "(I)Lcom/example/tierwright/tierwright/MaturityDiscount;"), (0, .methodref 25 34), (0, .nameAndType 5 35), (0, u "(Ljava/lang/String;Lcom/example/tierwright/tierwright/MaturityDiscount;)V"), (0, .methodref 25 37), (0, .nameAndType 38 39), (0, u "redemptionDecided"), (0, u "()Z"), (0, .methodref 25 41), (0, .nameAndType 42 43), (0, u "redemptionTerms"), (0, u "()Lcom/example/tierwright/tierwright/RedemptionTerms;"), (3, u "law"), (0, u "(IIIII)Z")] 4

def k1m0 : Method := { name := "<init>", desc := "()V", sig := { parameters := [], returnType := none }, accessFlags := 2, code := none }
def k1c1 : Code := { maxStack := 2, maxLocals := 2, code := method_2_code, exceptionTable := #[], attributes := #[] }
def k1m1 : Method := { name := "discountOf", desc := "(I)Lcom/example/tierwright/tierwright/MaturityDiscount;", sig := { parameters := [.int], returnType := some (.object "com/example/tierwright/tierwright/MaturityDiscount") }, accessFlags := 10, code := some k1c1 }
def k1c2 : Code := { maxStack := 4, maxLocals := 9, code := code, exceptionTable := #[], attributes := #[] }
def k1m2 : Method := { name := "law", desc := "(IIIII)Z", sig := { parameters := [.int, .int, .int, .int, .int], returnType := some .boolean }, accessFlags := 9, code := some k1c2 }
/-- com/example/tierwright/tierwright/InstrumentKindRedemptionDecidedPinLaw -/
def k1 : Class := { plain "com/example/tierwright/tierwright/InstrumentKindRedemptionDecidedPinLaw" (some 0) with
  accessFlags := 49
  interfaces := #[]
  cf := some (fileOf pool1 28 #[] #[{ accessFlags := 2, nameIndex := 5, descriptorIndex := 6, attributes := #[] }, { accessFlags := 10, nameIndex := 31, descriptorIndex := 32, attributes := #[] }, { accessFlags := 9, nameIndex := 47, descriptorIndex := 48, attributes := #[] }] 49 2 #[] #[])
  fields := #[]
  methods := #[k1m0, k1m1, k1m2]
  instanceTypes := #[]
  staticTypes := #[]
  resolved := Array.replicate 53 none
  statics := none }

def pool2 : Array CpInfo := pool [(1, .class_ 2), (0, u "java/io/Serializable"), (0, .class_ 4), (0, u "java/lang/Object")] 2

/-- java/io/Serializable -/
def k2 : Class := { plain "java/io/Serializable" (some 0) with
  accessFlags := 1537
  interfaces := #[]
  cf := some (fileOf pool2 1 #[] #[] 1537 3 #[] #[])
  fields := #[]
  methods := #[]
  instanceTypes := #[]
  staticTypes := #[]
  resolved := Array.replicate 7 none
  statics := none }

def pool3 : Array CpInfo := pool [(1, .class_ 2), (0, u "java/lang/Comparable"), (0, .class_ 4), (0, u "java/lang/Object")] 7

/-- java/lang/Comparable -/
def k3 : Class := { plain "java/lang/Comparable" (some 0) with
  accessFlags := 1537
  interfaces := #[]
  cf := some (fileOf pool3 1 #[] #[] 1537 3 #[] #[])
  fields := #[]
  methods := #[]
  instanceTypes := #[]
  staticTypes := #[]
  resolved := Array.replicate 12 none
  statics := none }

def pool4 : Array CpInfo := pool [(2, .class_ 4), (1, u "java/lang/CharSequence"), (42, .class_ 48), (0, u "java/lang/CharSequence$1CodePointIterator"), (10, .class_ 60), (0, u "java/lang/CharSequence$1CharIterator"), (5, .class_ 67), (0, u "java/lang/Object")] 63

/-- java/lang/CharSequence -/
def k4 : Class := { plain "java/lang/CharSequence" (some 0) with
  accessFlags := 1537
  interfaces := #[]
  cf := some (fileOf pool4 2 #[.nestMembers #[47, 59]] #[] 1537 66 #[] #[])
  fields := #[]
  methods := #[]
  instanceTypes := #[]
  staticTypes := #[]
  resolved := Array.replicate 131 none
  statics := none }

def pool5 : Array CpInfo := pool [(1, .class_ 2), (0, u "java/lang/constant/Constable"), (0, .class_ 4), (0, u "java/lang/Object")] 6

/-- java/lang/constant/Constable -/
def k5 : Class := { plain "java/lang/constant/Constable" (some 0) with
  accessFlags := 1537
  interfaces := #[]
  cf := some (fileOf pool5 1 #[] #[] 1537 3 #[] #[])
  fields := #[]
  methods := #[]
  instanceTypes := #[]
  staticTypes := #[]
  resolved := Array.replicate 11 none
  statics := none }

def pool6 : Array CpInfo := pool [(1, .class_ 2), (0, u "java/lang/constant/ConstantDesc"), (0, .class_ 4), (0, u "java/lang/Object")] 32

/-- java/lang/constant/ConstantDesc -/
def k6 : Class := { plain "java/lang/constant/ConstantDesc" (some 0) with
  accessFlags := 1537
  interfaces := #[]
  cf := some (fileOf pool6 1 #[] #[] 1537 3 #[] #[])
  fields := #[]
  methods := #[]
  instanceTypes := #[]
  staticTypes := #[]
  resolved := Array.replicate 37 none
  statics := none }

def pool7 : Array CpInfo := pool [(1, .methodref 2 3), (0, .class_ 4), (0, .nameAndType 5 6), (0, u "java/lang/Object"), (0, u "<init>"), (0, u "()V"), (0, .string 8), (0, u ""), (0, .fieldref 10 11), (0, .class_ 12), (0, .nameAndType 13 14), (0, u "java/lang/String"), (0, u "value"), (0, u "[B"), (0, .fieldref 10 16), (0, .nameAndType 17 18), (0, u "coder"), (0, u "B"), (2, u "hash"), (0, u "I"), (2, u "hashIsZero"), (0, u "Z"), (0, .methodref 10 28), (0, .nameAndType 5 29), (0, u "([CIILjava/lang/Void;)V"), (8, .fieldref 10 39), (0, .nameAndType 40 26), (0, u "COMPACT_STRINGS"), (1, .class_ 44), (1, u "java/lang/StringUTF16"), (0, u "compress"), (1, .methodref 42 48), (0, .nameAndType 49 50), (0, u "coderFromArrayLen"), (0, u "([BI)B"), (126, .methodref 42 178), (0, .nameAndType 45 179), (0, u "([CII)[B"), (395, .class_ 576), (0, u "java/lang/CharSequence"), (22, u "CASE_INSENSITIVE_ORDER"), (0, u "Ljava/util/Comparator;"), (409, u "([C)V"), (90, u "serialPersistentFields"), (0, u "[Ljava/io/ObjectStreamField;"), (0, .class_ 1104), (0, u "java/lang/String$CaseInsensitiveComparator"), (1, .class_ 1107), (0, u "java/io/Serializable"), (0, .class_ 1109), (0, u "java/lang/Comparable"), (0, .class_ 1111), (0, u "java/lang/constant/Constable"), (0, .class_ 1113), (0, u "java/lang/constant/ConstantDesc"), (2, u "serialVersionUID"), (0, u "J"), (3, u "REPL"), (0, u "C"), (2, u "LATIN1"), (1, u "UTF16")] 323

def k7m0 : Method := { name := "<init>", desc := "()V", sig := { parameters := [], returnType := none }, accessFlags := 1, code := none }
def k7c1 : Code := { maxStack := 5, maxLocals := 2, code := jdk_42_method_3_code, exceptionTable := #[], attributes := #[] }
def k7m1 : Method := { name := "<init>", desc := "([C)V", sig := { parameters := [(.array .char)], returnType := none }, accessFlags := 1, code := some k7c1 }
def k7c2 : Code := { maxStack := 4, maxLocals := 6, code := jdk_42_method_149_code, exceptionTable := #[], attributes := #[] }
def k7m2 : Method := { name := "<init>", desc := "([CIILjava/lang/Void;)V", sig := { parameters := [(.array .char), .int, .int, (.object "java/lang/Void")], returnType := none }, accessFlags := 2, code := some k7c2 }
/-- java/lang/String -/
def k7 : Class := { plain "java/lang/String" (some 0) with
  accessFlags := 49
  interfaces := #[2, 3, 4, 5, 6]
  cf := some (fileOf pool7 10 #[.nestMembers #[1103]] #[{ accessFlags := 1, nameIndex := 5, descriptorIndex := 6, attributes := #[] }, { accessFlags := 1, nameIndex := 5, descriptorIndex := 1010, attributes := #[] }, { accessFlags := 2, nameIndex := 5, descriptorIndex := 29, attributes := #[] }] 49 2 #[1106, 1108, 575, 1110, 1112] #[{ accessFlags := 18, nameIndex := 13, descriptorIndex := 14, attributes := #[] }, { accessFlags := 18, nameIndex := 17, descriptorIndex := 18, attributes := #[] }, { accessFlags := 2, nameIndex := 21, descriptorIndex := 22, attributes := #[] }, { accessFlags := 2, nameIndex := 25, descriptorIndex := 26, attributes := #[] }, { accessFlags := 26, nameIndex := 1116, descriptorIndex := 1117, attributes := #[] }, { accessFlags := 24, nameIndex := 40, descriptorIndex := 26, attributes := #[] }, { accessFlags := 26, nameIndex := 1101, descriptorIndex := 1102, attributes := #[] }, { accessFlags := 26, nameIndex := 1121, descriptorIndex := 1122, attributes := #[] }, { accessFlags := 25, nameIndex := 599, descriptorIndex := 600, attributes := #[] }, { accessFlags := 24, nameIndex := 1125, descriptorIndex := 18, attributes := #[] }, { accessFlags := 24, nameIndex := 1127, descriptorIndex := 18, attributes := #[] }])
  fields := #[{ name := "value", type := (.array .byte), accessFlags := 18, slot := 0, constantValue := 0 }, { name := "coder", type := .byte, accessFlags := 18, slot := 1, constantValue := 0 }, { name := "hash", type := .int, accessFlags := 2, slot := 2, constantValue := 0 }, { name := "hashIsZero", type := .boolean, accessFlags := 2, slot := 3, constantValue := 0 }, { name := "serialVersionUID", type := .long, accessFlags := 26, slot := 0, constantValue := 0 }, { name := "COMPACT_STRINGS", type := .boolean, accessFlags := 24, slot := 1, constantValue := 0 }, { name := "serialPersistentFields", type := (.array (.object "java/io/ObjectStreamField")), accessFlags := 26, slot := 2, constantValue := 0 }, { name := "REPL", type := .char, accessFlags := 26, slot := 3, constantValue := 0 }, { name := "CASE_INSENSITIVE_ORDER", type := (.object "java/util/Comparator"), accessFlags := 25, slot := 4, constantValue := 0 }, { name := "LATIN1", type := .byte, accessFlags := 24, slot := 5, constantValue := 0 }, { name := "UTF16", type := .byte, accessFlags := 24, slot := 6, constantValue := 0 }]
  methods := #[k7m0, k7m1, k7m2]
  instanceTypes := #[(.array .byte), .byte, .int, .boolean]
  staticTypes := #[.long, .boolean, (.array (.object "java/io/ObjectStreamField")), .char, (.object "java/util/Comparator"), .byte, .byte]
  resolved := Array.replicate 1451 none
  statics := some 0 }

def pool8 : Array CpInfo := pool [(1, .methodref 2 3), (0, .class_ 4), (0, .nameAndType 5 6), (0, u "java/lang/Object"), (0, u "<init>"), (0, u "()V"), (0, .class_ 8), (0, u "java/lang/Record")] 13

def k8c0 : Code := { maxStack := 1, maxLocals := 1, code := jdk_30_method_1_code, exceptionTable := #[], attributes := #[] }
def k8m0 : Method := { name := "<init>", desc := "()V", sig := { parameters := [], returnType := none }, accessFlags := 4, code := some k8c0 }
/-- java/lang/Record -/
def k8 : Class := { plain "java/lang/Record" (some 0) with
  accessFlags := 1057
  interfaces := #[]
  cf := some (fileOf pool8 7 #[] #[{ accessFlags := 4, nameIndex := 5, descriptorIndex := 6, attributes := #[] }] 1057 2 #[] #[])
  fields := #[]
  methods := #[k8m0]
  instanceTypes := #[]
  staticTypes := #[]
  resolved := Array.replicate 22 none
  statics := none }

def pool9 : Array CpInfo := pool [(1, .methodref 2 3), (0, .class_ 4), (0, .nameAndType 5 6), (0, u "java/lang/Record"), (0, u "<init>"), (0, u "()V"), (0, .string 8), (0, u "name"), (0, .methodref 10 11), (0, .class_ 12), (0, .nameAndType 13 14), (0, u "java/util/Objects"), (0, u "requireNonNull"), (0, u "(Ljava/lang/Object;Ljava/lang/String;)Ljava/lang/Object;"), (0, .string 16), (0, u "discount"), (0, .string 18), (0, u "denomination"), (0, .fieldref 20 21), (0, .class_ 22), (0, .nameAndType 8 23), (0, u "com/example/tierwright/tierwright/InstrumentKind"), (0, u "Ljava/lang/String;"), (0, .fieldref 20 25), (0, .nameAndType 16 26), (0, u "Lcom/example/tierwright/tierwright/MaturityDiscount;"), (0, .fieldref 20 28), (0, .nameAndType 29 30), (0, u "screen"), (0, u "Lcom/example/tierwright/tierwright/TermsScreen;"), (0, .fieldref 20 32), (0, .nameAndType 33 34), (0, u "cumulation"), (0, u "Lcom/example/tierwright/tierwright/Cumulation;"), (0, .fieldref 20 36), (0, .nameAndType 18 37), (0, u "Lcom/example/tierwright/tierwright/Denomination;"), (0, .fieldref 20 39), (0, .nameAndType 40 41), (0, u "redemptionTerms"), (0, u "Lcom/example/tierwright/tierwright/RedemptionTerms;"), (0, .methodref 20 43), (0, .nameAndType 5 44), (0, u "(Ljava/lang/String;Lcom/example/tierwright/tierwright/MaturityDiscount;Lcom/example/tierwright/tierwright/TermsScreen;Lcom/example/tierwright/tierwright/Cumulation;Lcom/example/tierwright/tierwright/Denomination;Lcom/example/tierwright/tierwright/RedemptionTerms;)V"), (0, .fieldref 46 47), (0, .class_ 48), (0, .nameAndType 49 37), (0, u "com/example/tierwright/tierwright/Denomination"), (0, u "RUPEES"), (0, .methodref 20 51), (0, .nameAndType 5 52), (0, u "(Ljava/lang/String;Lcom/example/tierwright/tierwright/MaturityDiscount;Lcom/example/tierwright/tierwright/TermsScreen;Lcom/example/tierwright/tierwright/Cumulation;Lcom/example/tierwright/tierwright/Denomination;)V"), (0, .methodref 20 54), (0, .nameAndType 5 55), (0, u "(Ljava/lang/String;Lcom/example/tierwright/tierwright/MaturityDiscount;Lcom/example/tierwright/tierwright/TermsScreen;Lcom/example/tierwright/tierwright/Cumulation;)V"), (16, u "(Ljava/lang/String;Lcom/example/tierwright/tierwright/MaturityDiscount;)V"), (1, u "()Z"), (2, u "redemptionDecided"), (7, u "()Lcom/example/tierwright/tierwright/RedemptionTerms;")] 25

def k9c0 : Code := { maxStack := 2, maxLocals := 7, code := prog_24_method_1_code, exceptionTable := #[], attributes := #[] }
def k9m0 : Method := { name := "<init>", desc := "(Ljava/lang/String;Lcom/example/tierwright/tierwright/MaturityDiscount;Lcom/example/tierwright/tierwright/TermsScreen;Lcom/example/tierwright/tierwright/Cumulation;Lcom/example/tierwright/tierwright/Denomination;Lcom/example/tierwright/tierwright/RedemptionTerms;)V", sig := { parameters := [(.object "java/lang/String"), (.object "com/example/tierwright/tierwright/MaturityDiscount"), (.object "com/example/tierwright/tierwright/TermsScreen"), (.object "com/example/tierwright/tierwright/Cumulation"), (.object "com/example/tierwright/tierwright/Denomination"), (.object "com/example/tierwright/tierwright/RedemptionTerms")], returnType := none }, accessFlags := 1, code := some k9c0 }
def k9c1 : Code := { maxStack := 7, maxLocals := 6, code := prog_24_method_2_code, exceptionTable := #[], attributes := #[] }
def k9m1 : Method := { name := "<init>", desc := "(Ljava/lang/String;Lcom/example/tierwright/tierwright/MaturityDiscount;Lcom/example/tierwright/tierwright/TermsScreen;Lcom/example/tierwright/tierwright/Cumulation;Lcom/example/tierwright/tierwright/Denomination;)V", sig := { parameters := [(.object "java/lang/String"), (.object "com/example/tierwright/tierwright/MaturityDiscount"), (.object "com/example/tierwright/tierwright/TermsScreen"), (.object "com/example/tierwright/tierwright/Cumulation"), (.object "com/example/tierwright/tierwright/Denomination")], returnType := none }, accessFlags := 1, code := some k9c1 }
def k9c2 : Code := { maxStack := 6, maxLocals := 5, code := prog_24_method_3_code, exceptionTable := #[], attributes := #[] }
def k9m2 : Method := { name := "<init>", desc := "(Ljava/lang/String;Lcom/example/tierwright/tierwright/MaturityDiscount;Lcom/example/tierwright/tierwright/TermsScreen;Lcom/example/tierwright/tierwright/Cumulation;)V", sig := { parameters := [(.object "java/lang/String"), (.object "com/example/tierwright/tierwright/MaturityDiscount"), (.object "com/example/tierwright/tierwright/TermsScreen"), (.object "com/example/tierwright/tierwright/Cumulation")], returnType := none }, accessFlags := 1, code := some k9c2 }
def k9c3 : Code := { maxStack := 5, maxLocals := 3, code := prog_24_method_5_code, exceptionTable := #[], attributes := #[] }
def k9m3 : Method := { name := "<init>", desc := "(Ljava/lang/String;Lcom/example/tierwright/tierwright/MaturityDiscount;)V", sig := { parameters := [(.object "java/lang/String"), (.object "com/example/tierwright/tierwright/MaturityDiscount")], returnType := none }, accessFlags := 1, code := some k9c3 }
def k9c4 : Code := { maxStack := 1, maxLocals := 1, code := prog_24_method_8_code, exceptionTable := #[], attributes := #[] }
def k9m4 : Method := { name := "redemptionDecided", desc := "()Z", sig := { parameters := [], returnType := some .boolean }, accessFlags := 1, code := some k9c4 }
def k9c5 : Code := { maxStack := 1, maxLocals := 1, code := prog_24_method_17_code, exceptionTable := #[], attributes := #[] }
def k9m5 : Method := { name := "redemptionTerms", desc := "()Lcom/example/tierwright/tierwright/RedemptionTerms;", sig := { parameters := [], returnType := some (.object "com/example/tierwright/tierwright/RedemptionTerms") }, accessFlags := 1, code := some k9c5 }
/-- com/example/tierwright/tierwright/InstrumentKind -/
def k9 : Class := { plain "com/example/tierwright/tierwright/InstrumentKind" (some 8) with
  accessFlags := 49
  interfaces := #[]
  cf := some (fileOf pool9 20 #[] #[{ accessFlags := 1, nameIndex := 5, descriptorIndex := 44, attributes := #[] }, { accessFlags := 1, nameIndex := 5, descriptorIndex := 52, attributes := #[] }, { accessFlags := 1, nameIndex := 5, descriptorIndex := 55, attributes := #[] }, { accessFlags := 1, nameIndex := 5, descriptorIndex := 72, attributes := #[] }, { accessFlags := 1, nameIndex := 77, descriptorIndex := 74, attributes := #[] }, { accessFlags := 1, nameIndex := 40, descriptorIndex := 85, attributes := #[] }] 49 2 #[] #[{ accessFlags := 18, nameIndex := 8, descriptorIndex := 23, attributes := #[] }, { accessFlags := 18, nameIndex := 16, descriptorIndex := 26, attributes := #[] }, { accessFlags := 18, nameIndex := 29, descriptorIndex := 30, attributes := #[] }, { accessFlags := 18, nameIndex := 33, descriptorIndex := 34, attributes := #[] }, { accessFlags := 18, nameIndex := 18, descriptorIndex := 37, attributes := #[] }, { accessFlags := 18, nameIndex := 40, descriptorIndex := 41, attributes := #[] }])
  fields := #[{ name := "name", type := (.object "java/lang/String"), accessFlags := 18, slot := 0, constantValue := 0 }, { name := "discount", type := (.object "com/example/tierwright/tierwright/MaturityDiscount"), accessFlags := 18, slot := 1, constantValue := 0 }, { name := "screen", type := (.object "com/example/tierwright/tierwright/TermsScreen"), accessFlags := 18, slot := 2, constantValue := 0 }, { name := "cumulation", type := (.object "com/example/tierwright/tierwright/Cumulation"), accessFlags := 18, slot := 3, constantValue := 0 }, { name := "denomination", type := (.object "com/example/tierwright/tierwright/Denomination"), accessFlags := 18, slot := 4, constantValue := 0 }, { name := "redemptionTerms", type := (.object "com/example/tierwright/tierwright/RedemptionTerms"), accessFlags := 18, slot := 5, constantValue := 0 }]
  methods := #[k9m0, k9m1, k9m2, k9m3, k9m4, k9m5]
  instanceTypes := #[(.object "java/lang/String"), (.object "com/example/tierwright/tierwright/MaturityDiscount"), (.object "com/example/tierwright/tierwright/TermsScreen"), (.object "com/example/tierwright/tierwright/Cumulation"), (.object "com/example/tierwright/tierwright/Denomination"), (.object "com/example/tierwright/tierwright/RedemptionTerms")]
  staticTypes := #[]
  resolved := Array.replicate 111 none
  statics := none }

def pool10 : Array CpInfo := pool [(2, .class_ 4), (1, u "java/lang/Enum"), (0, u "name"), (0, u "Ljava/lang/String;"), (2, u "ordinal"), (0, u "I"), (1, .class_ 14), (1, u "java/lang/Object"), (4, u "hash"), (86, .class_ 108), (1, u "java/lang/Enum$EnumDesc"), (2, .class_ 112), (0, u "java/lang/constant/Constable"), (0, .class_ 114), (0, u "java/lang/Comparable"), (0, .class_ 116), (0, u "java/io/Serializable")] 87

/-- java/lang/Enum -/
def k10 : Class := { plain "java/lang/Enum" (some 0) with
  accessFlags := 1057
  interfaces := #[5, 3, 2]
  cf := some (fileOf pool10 2 #[.nestMembers #[106]] #[] 1057 12 #[111, 113, 115] #[{ accessFlags := 18, nameIndex := 5, descriptorIndex := 6, attributes := #[] }, { accessFlags := 18, nameIndex := 9, descriptorIndex := 10, attributes := #[] }, { accessFlags := 2, nameIndex := 19, descriptorIndex := 10, attributes := #[] }])
  fields := #[{ name := "name", type := (.object "java/lang/String"), accessFlags := 18, slot := 0, constantValue := 0 }, { name := "ordinal", type := .int, accessFlags := 18, slot := 1, constantValue := 0 }, { name := "hash", type := .int, accessFlags := 2, slot := 2, constantValue := 0 }]
  methods := #[]
  instanceTypes := #[(.object "java/lang/String"), .int, .int]
  staticTypes := #[]
  resolved := Array.replicate 204 none
  statics := none }

def pool11 : Array CpInfo := pool [(1, .class_ 2), (0, u "com/example/tierwright/tierwright/MaturityDiscount"), (2, u "PERPETUAL"), (0, u "Lcom/example/tierwright/tierwright/MaturityDiscount;"), (2, u "BANDS_INCLUDE_LOWER_EDGE"), (2, u "ANNIVERSARY_TAKES_BAND_BELOW"), (2, u "$VALUES"), (0, u "[Lcom/example/tierwright/tierwright/MaturityDiscount;"), (6, .class_ 25), (1, u "java/lang/Enum"), (52, u "PERCENT_PER_YEAR"), (0, u "I")] 14

/-- com/example/tierwright/tierwright/MaturityDiscount -/
def k11 : Class := { plain "com/example/tierwright/tierwright/MaturityDiscount" (some 10) with
  accessFlags := 16433
  interfaces := #[]
  cf := some (fileOf pool11 1 #[] #[] 16433 23 #[] #[{ accessFlags := 16409, nameIndex := 5, descriptorIndex := 6, attributes := #[] }, { accessFlags := 16409, nameIndex := 9, descriptorIndex := 6, attributes := #[] }, { accessFlags := 16409, nameIndex := 12, descriptorIndex := 6, attributes := #[] }, { accessFlags := 26, nameIndex := 78, descriptorIndex := 79, attributes := #[] }, { accessFlags := 4122, nameIndex := 15, descriptorIndex := 16, attributes := #[] }])
  fields := #[{ name := "PERPETUAL", type := (.object "com/example/tierwright/tierwright/MaturityDiscount"), accessFlags := 16409, slot := 0, constantValue := 0 }, { name := "BANDS_INCLUDE_LOWER_EDGE", type := (.object "com/example/tierwright/tierwright/MaturityDiscount"), accessFlags := 16409, slot := 1, constantValue := 0 }, { name := "ANNIVERSARY_TAKES_BAND_BELOW", type := (.object "com/example/tierwright/tierwright/MaturityDiscount"), accessFlags := 16409, slot := 2, constantValue := 0 }, { name := "PERCENT_PER_YEAR", type := .int, accessFlags := 26, slot := 3, constantValue := 0 }, { name := "$VALUES", type := (.array (.object "com/example/tierwright/tierwright/MaturityDiscount")), accessFlags := 4122, slot := 4, constantValue := 0 }]
  methods := #[]
  instanceTypes := #[(.object "java/lang/String"), .int, .int]
  staticTypes := #[(.object "com/example/tierwright/tierwright/MaturityDiscount"), (.object "com/example/tierwright/tierwright/MaturityDiscount"), (.object "com/example/tierwright/tierwright/MaturityDiscount"), .int, (.array (.object "com/example/tierwright/tierwright/MaturityDiscount"))]
  resolved := Array.replicate 94 none
  statics := some 1 }

def pool12 : Array CpInfo := pool [(1, .class_ 2), (0, u "com/example/tierwright/tierwright/Denomination"), (2, u "RUPEES"), (0, u "Lcom/example/tierwright/tierwright/Denomination;"), (2, u "ANY_CURRENCY"), (2, u "$VALUES"), (0, u "[Lcom/example/tierwright/tierwright/Denomination;"), (6, .class_ 22), (1, u "java/lang/Enum"), (13, u "RUPEE_CODE"), (0, u "Ljava/lang/String;")] 14

/-- com/example/tierwright/tierwright/Denomination -/
def k12 : Class := { plain "com/example/tierwright/tierwright/Denomination" (some 10) with
  accessFlags := 16433
  interfaces := #[]
  cf := some (fileOf pool12 1 #[] #[] 16433 20 #[] #[{ accessFlags := 16409, nameIndex := 5, descriptorIndex := 6, attributes := #[] }, { accessFlags := 16409, nameIndex := 9, descriptorIndex := 6, attributes := #[] }, { accessFlags := 25, nameIndex := 36, descriptorIndex := 37, attributes := #[] }, { accessFlags := 4122, nameIndex := 12, descriptorIndex := 13, attributes := #[] }])
  fields := #[{ name := "RUPEES", type := (.object "com/example/tierwright/tierwright/Denomination"), accessFlags := 16409, slot := 0, constantValue := 0 }, { name := "ANY_CURRENCY", type := (.object "com/example/tierwright/tierwright/Denomination"), accessFlags := 16409, slot := 1, constantValue := 0 }, { name := "RUPEE_CODE", type := (.object "java/lang/String"), accessFlags := 25, slot := 2, constantValue := 0 }, { name := "$VALUES", type := (.array (.object "com/example/tierwright/tierwright/Denomination")), accessFlags := 4122, slot := 3, constantValue := 0 }]
  methods := #[]
  instanceTypes := #[(.object "java/lang/String"), .int, .int]
  staticTypes := #[(.object "com/example/tierwright/tierwright/Denomination"), (.object "com/example/tierwright/tierwright/Denomination"), (.object "java/lang/String"), (.array (.object "com/example/tierwright/tierwright/Denomination"))]
  resolved := Array.replicate 52 none
  statics := some 2 }

def pool13 : Array CpInfo := pool [(2, .class_ 4), (1, u "java/lang/Object"), (0, u "<init>"), (0, u "()V"), (35, .class_ 44), (1, u "java/util/Objects"), (0, u "requireNonNull"), (48, u "(Ljava/lang/Object;Ljava/lang/String;)Ljava/lang/Object;")] 89

def k13m0 : Method := { name := "<init>", desc := "()V", sig := { parameters := [], returnType := none }, accessFlags := 2, code := none }
def k13c1 : Code := { maxStack := 3, maxLocals := 2, code := jdk_31_method_11_code, exceptionTable := #[], attributes := #[] }
def k13m1 : Method := { name := "requireNonNull", desc := "(Ljava/lang/Object;Ljava/lang/String;)Ljava/lang/Object;", sig := { parameters := [(.object "java/lang/Object"), (.object "java/lang/String")], returnType := some (.object "java/lang/Object") }, accessFlags := 9, code := some k13c1 }
/-- java/util/Objects -/
def k13 : Class := { plain "java/util/Objects" (some 0) with
  accessFlags := 49
  interfaces := #[]
  cf := some (fileOf pool13 42 #[] #[{ accessFlags := 2, nameIndex := 5, descriptorIndex := 6, attributes := #[] }, { accessFlags := 9, nameIndex := 45, descriptorIndex := 94, attributes := #[] }] 49 2 #[] #[])
  fields := #[]
  methods := #[k13m0, k13m1]
  instanceTypes := #[]
  staticTypes := #[]
  resolved := Array.replicate 184 none
  statics := none }

def pool14 : Array CpInfo := pool [(6, .class_ 8), (1, u "java/lang/Object"), (0, u "<init>"), (0, u "()V"), (1, .class_ 14), (1, u "java/lang/StringUTF16"), (31, u "$assertionsDisabled"), (0, u "Z"), (13, u "HI_BYTE_SHIFT"), (0, u "I"), (2, u "LO_BYTE_SHIFT"), (49, .methodref 12 116), (0, .nameAndType 117 118), (0, u "compress"), (0, u "([CI[BII)I"), (3, u "([CII)[B"), (138, u "coderFromArrayLen"), (0, u "([BI)B"), (106, .class_ 371), (1, u "java/lang/StringUTF16$LinesSpliterator"), (58, u "MAX_LENGTH"), (196, .class_ 628), (0, u "java/lang/StringUTF16$CodePointsSpliterator"), (0, .class_ 630), (0, u "java/lang/StringUTF16$CharsSpliterator")] 4

def k14m0 : Method := { name := "<init>", desc := "()V", sig := { parameters := [], returnType := none }, accessFlags := 0, code := none }
def k14c1 : Code := { maxStack := 2, maxLocals := 2, code := jdk_52_method_15_code, exceptionTable := #[], attributes := #[] }
def k14m1 : Method := { name := "coderFromArrayLen", desc := "([BI)B", sig := { parameters := [(.array .byte), .int], returnType := some .byte }, accessFlags := 8, code := some k14c1 }
def k14c2 : Code := { maxStack := 5, maxLocals := 6, code := jdk_52_method_16_code, exceptionTable := #[], attributes := #[] }
def k14m2 : Method := { name := "compress", desc := "([CII)[B", sig := { parameters := [(.array .char), .int, .int], returnType := some (.array .byte) }, accessFlags := 9, code := some k14c2 }
def k14c3 : Code := { maxStack := 3, maxLocals := 7, code := jdk_52_method_21_code, exceptionTable := #[], attributes := #[] }
def k14m3 : Method := { name := "compress", desc := "([CI[BII)I", sig := { parameters := [(.array .char), .int, (.array .byte), .int, .int], returnType := some .int }, accessFlags := 9, code := some k14c3 }
/-- java/lang/StringUTF16 -/
def k14 : Class := { plain "java/lang/StringUTF16" (some 0) with
  accessFlags := 48
  interfaces := #[]
  cf := some (fileOf pool14 12 #[.nestMembers #[627, 629, 369]] #[{ accessFlags := 0, nameIndex := 9, descriptorIndex := 10, attributes := #[] }, { accessFlags := 8, nameIndex := 261, descriptorIndex := 262, attributes := #[] }, { accessFlags := 9, nameIndex := 117, descriptorIndex := 122, attributes := #[] }, { accessFlags := 9, nameIndex := 117, descriptorIndex := 118, attributes := #[] }] 48 6 #[] #[{ accessFlags := 26, nameIndex := 61, descriptorIndex := 62, attributes := #[] }, { accessFlags := 26, nameIndex := 65, descriptorIndex := 62, attributes := #[] }, { accessFlags := 24, nameIndex := 430, descriptorIndex := 62, attributes := #[] }, { accessFlags := 4120, nameIndex := 46, descriptorIndex := 47, attributes := #[] }])
  fields := #[{ name := "HI_BYTE_SHIFT", type := .int, accessFlags := 26, slot := 0, constantValue := 0 }, { name := "LO_BYTE_SHIFT", type := .int, accessFlags := 26, slot := 1, constantValue := 0 }, { name := "MAX_LENGTH", type := .int, accessFlags := 24, slot := 2, constantValue := 0 }, { name := "$assertionsDisabled", type := .boolean, accessFlags := 4120, slot := 3, constantValue := 0 }]
  methods := #[k14m0, k14m1, k14m2, k14m3]
  instanceTypes := #[]
  staticTypes := #[.int, .int, .int, .boolean]
  resolved := Array.replicate 635 none
  statics := none }

def pool15 : Array CpInfo := pool [(4, .class_ 6), (1, u "java/lang/Object"), (0, u "<init>"), (0, u "()V"), (5, .class_ 16), (1, u "java/lang/StringLatin1"), (104, u "$assertionsDisabled"), (0, u "Z"), (98, .class_ 223), (1, u "java/lang/StringLatin1$LinesSpliterator"), (166, .class_ 391), (0, u "java/lang/StringLatin1$CharsSpliterator")] 3

def k15m0 : Method := { name := "<init>", desc := "()V", sig := { parameters := [], returnType := none }, accessFlags := 0, code := none }
/-- java/lang/StringLatin1 -/
def k15 : Class := { plain "java/lang/StringLatin1" (some 0) with
  accessFlags := 48
  interfaces := #[]
  cf := some (fileOf pool15 14 #[.nestMembers #[390, 221]] #[{ accessFlags := 0, nameIndex := 7, descriptorIndex := 8, attributes := #[] }] 48 4 #[] #[{ accessFlags := 4120, nameIndex := 121, descriptorIndex := 122, attributes := #[] }])
  fields := #[{ name := "$assertionsDisabled", type := .boolean, accessFlags := 4120, slot := 0, constantValue := 0 }]
  methods := #[k15m0]
  instanceTypes := #[]
  staticTypes := #[.boolean]
  resolved := Array.replicate 395 none
  statics := none }

def pool16 : Array CpInfo := pool [(2, .class_ 4), (1, u "java/lang/Object"), (0, u "<init>"), (0, u "()V"), (17, .class_ 26), (1, u "jdk/internal/util/Preconditions"), (28, .class_ 56), (0, u "jdk/internal/util/Preconditions$4"), (57, .class_ 115), (0, u "jdk/internal/util/Preconditions$1"), (7, u "SIOOBE_FORMATTER"), (0, u "Ljava/util/function/BiFunction;"), (0, .class_ 126), (0, u "jdk/internal/util/Preconditions$2"), (3, u "AIOOBE_FORMATTER"), (0, .class_ 132), (0, u "jdk/internal/util/Preconditions$3"), (3, u "IOOBE_FORMATTER")] 57

def k16m0 : Method := { name := "<init>", desc := "()V", sig := { parameters := [], returnType := none }, accessFlags := 1, code := none }
/-- jdk/internal/util/Preconditions -/
def k16 : Class := { plain "jdk/internal/util/Preconditions" (some 0) with
  accessFlags := 33
  interfaces := #[]
  cf := some (fileOf pool16 24 #[.nestMembers #[55, 131, 125, 114]] #[{ accessFlags := 1, nameIndex := 5, descriptorIndex := 6, attributes := #[] }] 33 2 #[] #[{ accessFlags := 25, nameIndex := 123, descriptorIndex := 124, attributes := #[] }, { accessFlags := 25, nameIndex := 130, descriptorIndex := 124, attributes := #[] }, { accessFlags := 25, nameIndex := 136, descriptorIndex := 124, attributes := #[] }])
  fields := #[{ name := "SIOOBE_FORMATTER", type := (.object "java/util/function/BiFunction"), accessFlags := 25, slot := 0, constantValue := 0 }, { name := "AIOOBE_FORMATTER", type := (.object "java/util/function/BiFunction"), accessFlags := 25, slot := 1, constantValue := 0 }, { name := "IOOBE_FORMATTER", type := (.object "java/util/function/BiFunction"), accessFlags := 25, slot := 2, constantValue := 0 }]
  methods := #[k16m0]
  instanceTypes := #[]
  staticTypes := #[(.object "java/util/function/BiFunction"), (.object "java/util/function/BiFunction"), (.object "java/util/function/BiFunction")]
  resolved := Array.replicate 194 none
  statics := some 3 }

def pool17 : Array CpInfo := pool [(9, u "<init>"), (6, .class_ 18), (1, u "java/lang/Object"), (0, u "()V"), (1, .class_ 23), (1, u "jdk/internal/util/ArraysSupport"), (0, u "LOG2_ARRAY_LONG_INDEX_SCALE"), (0, u "I"), (2, u "U"), (0, u "Ljdk/internal/misc/Unsafe;"), (8, u "BIG_ENDIAN"), (0, u "Z"), (8, u "LOG2_BYTE_BIT_SIZE"), (4, u "LOG2_ARRAY_INT_INDEX_SCALE"), (54, u "JLA"), (0, u "Ljdk/internal/access/JavaLangAccess;"), (11, u "LOG2_ARRAY_BOOLEAN_INDEX_SCALE"), (9, u "LOG2_ARRAY_BYTE_INDEX_SCALE"), (5, u "LOG2_ARRAY_CHAR_INDEX_SCALE"), (5, u "LOG2_ARRAY_SHORT_INDEX_SCALE"), (18, u "LOG2_ARRAY_FLOAT_INDEX_SCALE"), (24, u "LOG2_ARRAY_DOUBLE_INDEX_SCALE"), (89, u "T_BOOLEAN"), (2, u "T_CHAR"), (1, u "T_FLOAT"), (1, u "T_DOUBLE"), (1, u "T_BYTE"), (1, u "T_SHORT"), (1, u "T_INT"), (1, u "T_LONG"), (1, u "SOFT_MAX_ARRAY_LENGTH")] 83

def k17m0 : Method := { name := "<init>", desc := "()V", sig := { parameters := [], returnType := none }, accessFlags := 2, code := none }
/-- jdk/internal/util/ArraysSupport -/
def k17 : Class := { plain "jdk/internal/util/ArraysSupport" (some 0) with
  accessFlags := 33
  interfaces := #[]
  cf := some (fileOf pool17 21 #[] #[{ accessFlags := 2, nameIndex := 9, descriptorIndex := 19, attributes := #[] }] 33 16 #[] #[{ accessFlags := 24, nameIndex := 28, descriptorIndex := 29, attributes := #[] }, { accessFlags := 26, nameIndex := 38, descriptorIndex := 39, attributes := #[] }, { accessFlags := 25, nameIndex := 121, descriptorIndex := 25, attributes := #[] }, { accessFlags := 25, nameIndex := 131, descriptorIndex := 25, attributes := #[] }, { accessFlags := 25, nameIndex := 137, descriptorIndex := 25, attributes := #[] }, { accessFlags := 25, nameIndex := 143, descriptorIndex := 25, attributes := #[] }, { accessFlags := 25, nameIndex := 53, descriptorIndex := 25, attributes := #[] }, { accessFlags := 25, nameIndex := 24, descriptorIndex := 25, attributes := #[] }, { accessFlags := 25, nameIndex := 162, descriptorIndex := 25, attributes := #[] }, { accessFlags := 25, nameIndex := 187, descriptorIndex := 25, attributes := #[] }, { accessFlags := 26, nameIndex := 48, descriptorIndex := 25, attributes := #[] }, { accessFlags := 25, nameIndex := 277, descriptorIndex := 25, attributes := #[] }, { accessFlags := 25, nameIndex := 280, descriptorIndex := 25, attributes := #[] }, { accessFlags := 25, nameIndex := 282, descriptorIndex := 25, attributes := #[] }, { accessFlags := 25, nameIndex := 284, descriptorIndex := 25, attributes := #[] }, { accessFlags := 25, nameIndex := 286, descriptorIndex := 25, attributes := #[] }, { accessFlags := 25, nameIndex := 288, descriptorIndex := 25, attributes := #[] }, { accessFlags := 25, nameIndex := 290, descriptorIndex := 25, attributes := #[] }, { accessFlags := 25, nameIndex := 292, descriptorIndex := 25, attributes := #[] }, { accessFlags := 26, nameIndex := 108, descriptorIndex := 109, attributes := #[] }, { accessFlags := 25, nameIndex := 294, descriptorIndex := 25, attributes := #[] }])
  fields := #[{ name := "U", type := (.object "jdk/internal/misc/Unsafe"), accessFlags := 24, slot := 0, constantValue := 0 }, { name := "BIG_ENDIAN", type := .boolean, accessFlags := 26, slot := 1, constantValue := 0 }, { name := "LOG2_ARRAY_BOOLEAN_INDEX_SCALE", type := .int, accessFlags := 25, slot := 2, constantValue := 0 }, { name := "LOG2_ARRAY_BYTE_INDEX_SCALE", type := .int, accessFlags := 25, slot := 3, constantValue := 0 }, { name := "LOG2_ARRAY_CHAR_INDEX_SCALE", type := .int, accessFlags := 25, slot := 4, constantValue := 0 }, { name := "LOG2_ARRAY_SHORT_INDEX_SCALE", type := .int, accessFlags := 25, slot := 5, constantValue := 0 }, { name := "LOG2_ARRAY_INT_INDEX_SCALE", type := .int, accessFlags := 25, slot := 6, constantValue := 0 }, { name := "LOG2_ARRAY_LONG_INDEX_SCALE", type := .int, accessFlags := 25, slot := 7, constantValue := 0 }, { name := "LOG2_ARRAY_FLOAT_INDEX_SCALE", type := .int, accessFlags := 25, slot := 8, constantValue := 0 }, { name := "LOG2_ARRAY_DOUBLE_INDEX_SCALE", type := .int, accessFlags := 25, slot := 9, constantValue := 0 }, { name := "LOG2_BYTE_BIT_SIZE", type := .int, accessFlags := 26, slot := 10, constantValue := 0 }, { name := "T_BOOLEAN", type := .int, accessFlags := 25, slot := 11, constantValue := 0 }, { name := "T_CHAR", type := .int, accessFlags := 25, slot := 12, constantValue := 0 }, { name := "T_FLOAT", type := .int, accessFlags := 25, slot := 13, constantValue := 0 }, { name := "T_DOUBLE", type := .int, accessFlags := 25, slot := 14, constantValue := 0 }, { name := "T_BYTE", type := .int, accessFlags := 25, slot := 15, constantValue := 0 }, { name := "T_SHORT", type := .int, accessFlags := 25, slot := 16, constantValue := 0 }, { name := "T_INT", type := .int, accessFlags := 25, slot := 17, constantValue := 0 }, { name := "T_LONG", type := .int, accessFlags := 25, slot := 18, constantValue := 0 }, { name := "JLA", type := (.object "jdk/internal/access/JavaLangAccess"), accessFlags := 26, slot := 19, constantValue := 0 }, { name := "SOFT_MAX_ARRAY_LENGTH", type := .int, accessFlags := 25, slot := 20, constantValue := 0 }]
  methods := #[k17m0]
  instanceTypes := #[]
  staticTypes := #[(.object "jdk/internal/misc/Unsafe"), .boolean, .int, .int, .int, .int, .int, .int, .int, .int, .int, .int, .int, .int, .int, .int, .int, .int, .int, (.object "jdk/internal/access/JavaLangAccess"), .int]
  resolved := Array.replicate 378 none
  statics := none }

def pool18 : Array CpInfo := pool [(1, u "java/lang/Cloneable"), (0, .class_ 1), (0, u "java/lang/Object"), (0, .class_ 3)] 3

/-- java/lang/Cloneable -/
def k18 : Class := { plain "java/lang/Cloneable" (some 0) with
  accessFlags := 1537
  interfaces := #[]
  cf := some (fileOf pool18 2 #[] #[] 1537 4 #[] #[])
  fields := #[]
  methods := #[]
  instanceTypes := #[]
  staticTypes := #[]
  resolved := Array.replicate 8 none
  statics := none }

/-- the primitive byte -/
def k19 : Class := { plain "byte" none with kind := .primitive 'B', accessFlags := 0x411 }
/-- [B -/
def k20 : Class := { plain "[B" (some 0) with kind := .array 19 .byte, interfaces := #[18, 2], accessFlags := 1041 }

/-- the primitive char -/
def k21 : Class := { plain "char" none with kind := .primitive 'C', accessFlags := 0x411 }
/-- [C -/
def k22 : Class := { plain "[C" (some 0) with kind := .array 21 .char, interfaces := #[18, 2], accessFlags := 1041 }

/-- the primitive int -/
def k23 : Class := { plain "int" none with kind := .primitive 'I', accessFlags := 0x411 }
/-- [I -/
def k24 : Class := { plain "[I" (some 0) with kind := .array 23 .int, interfaces := #[18, 2], accessFlags := 1041 }

def heap : Heap := #[{ cls := 7, slots := #[.long 0, .int 1, .null, .int 0, .null, .int 0, .int 0], vm := .statics 7 },
  { cls := 11, slots := #[.ref 4, .ref 4, .ref 4, .int 0, .null], vm := .statics 11 },
  { cls := 12, slots := #[.ref 5, .null, .null, .null], vm := .statics 12 },
  { cls := 16, slots := #[.null, .null, .null], vm := .statics 16 },
  { cls := 11, slots := #[.null, .int 0, .int 0], vm := .none },
  { cls := 12, slots := #[.null, .int 0, .int 0], vm := .none }]
def classes : Array Class := #[k0, k1, k2, k3, k4, k5, k6, k7, k8, k9, k10, k11, k12, k13, k14, k15, k16, k17, k18, k19, k20, k21, k22, k23, k24]
def interned : List (Array UInt16 × Addr) := []
def slotsUsed : Nat := 25
def theMethod : MethodId := ⟨1, 2⟩
def args0 : Array Value := #[.int 2, .int 65, .int 66, .int 67, .int 1]
def aboutOver (below : List Frame) : State where
  vm := { classes := classes, interned := interned.toArray }
  heap := heap
  slotsUsed := slotsUsed
  threads := #[{ frames := .invoking theMethod args0 :: below }]
def below0 : List Frame := [.native { method := ⟨0, 0⟩, args := #[] }]
def about1 : State := aboutOver below0
def p0 : Program := .bare "" "" ""
def e0 : Env := launch0.env 0 0 0
theorem w_frames : about1.frames = Frame.invoking theMethod args0 :: below0 := rfl
set_option maxRecDepth 65536 in
theorem w_args : argsFit about1.vm theMethod args0 = true := by decide +kernel
set_option maxRecDepth 65536 in
theorem w_heap : heapFits about1 = true := by decide +kernel
set_option maxRecDepth 65536 in
theorem w_runnable : about1.curStatus? = some .runnable := by decide +kernel
set_option maxRecDepth 65536 in
theorem w_alone : about1.alone = true := by decide +kernel
set_option maxRecDepth 65536 in
theorem w_named : about1.methodNamed? x = some theMethod := by decide +kernel
set_option maxRecDepth 65536 in
theorem w_hears : about1.hears theMethod below0 = true := by decide +kernel
set_option maxRecDepth 65536 in
theorem w_ripe : about1.ripe theMethod args0 below0 = true := by decide +kernel
theorem w_running : about1.status = .running := rfl
set_option maxRecDepth 65536 in
theorem w_room : about1.hasRoom e0.platform room_1 = true :=
  launch0.hasRoom_least _ room_1 (by decide +kernel) (by decide +kernel) (by decide +kernel) (by decide +kernel) (by decide +kernel) (by decide +kernel)
theorem allAtoms_all (ts : List Jvm.Cond) (a : Array Jvm.Value) (st : Jvm.State) : (allAtoms ts).before a st = ts.all (fun c => c.before a st) := by
  induction ts with
  | nil => rfl
  | cons c t ih =>
    show (Jvm.Cond.and c (allAtoms t)).before a st = _
    rw [Jvm.Cond.before_and, ih, List.all_cons]
def words1 : List Jvm.Cond := Jvm.Cond.code x code maxLocals ret :: tables_1
/-- a 'code' word, met by the world's own term for the bytes: nothing is compared byte by byte -/
theorem code_word {y : MethodName} {bytes : ByteArray} {mx : Nat} {rt : Option FieldType} {a : Array Value} {s : State} {m : MethodId} {meth : Method} {c : Code} (h1 : s.methodNamed? y = some m) (h2 : s.vm.method? m = some meth) (h3 : meth.code = some c) (h4 : c.code = bytes)
    (h5 : (c.maxLocals == mx && c.exceptionTable.isEmpty && decide (c.maxStack ≤ mostOperands) && decide (meth.sig.returnType = rt) && !meth.locks && decide (parseMethodDescriptor y.desc = some meth.sig)) = true) : (Jvm.Cond.code y bytes mx rt).before a s = true := by
  simp only [Bool.and_eq_true, beq_iff_eq, Bool.not_eq_true', decide_eq_true_eq] at h5
  obtain ⟨⟨⟨⟨⟨g1, g2⟩, g3⟩, g4⟩, g5⟩, g6⟩ := h5
  simp [Cond.before, Cond.holds, Cond.value, h1, h2, h3, h4, g1, g2, g3, g4, g5, g6]
def isCode : Jvm.Cond → Bool
  | .code _ _ _ _ => true
  | _ => false
theorem all_split {L : List Jvm.Cond} {P : Jvm.Cond → Bool} (h1 : L.all (fun c => isCode c || P c) = true) (h2 : ∀ c ∈ L.filter isCode, P c = true) : L.all P = true := by
  refine List.all_eq_true.mpr fun c hc => ?_
  have h := List.all_eq_true.mp h1 c hc
  rcases Bool.eq_false_or_eq_true (isCode c) with hi | hi
  · exact h2 c (List.mem_filter.mpr ⟨hc, hi⟩)
  · simpa [hi] using h
set_option maxRecDepth 65536 in
theorem w_c0 : (Jvm.Cond.code x code maxLocals ret).before args0 about1 = true := code_word (m := ⟨1, 2⟩) (meth := k1m2) (c := k1c2) (by decide +kernel) rfl rfl rfl (by decide +kernel)
set_option maxRecDepth 65536 in
theorem w_c1 : (Jvm.Cond.code ({ cls := "java/lang/String", name := "<init>", desc := "([C)V" } : Jvm.MethodName) jdk_42_method_3_code (2 : Nat) (Option.none : Option Jvm.ClassFile.FieldType)).before args0 about1 = true := code_word (m := ⟨7, 1⟩) (meth := k7m1) (c := k7c1) (by decide +kernel) rfl rfl rfl (by decide +kernel)
set_option maxRecDepth 65536 in
theorem w_c2 : (Jvm.Cond.code ({ cls := "java/lang/String", name := "<init>", desc := "([CIILjava/lang/Void;)V" } : Jvm.MethodName) jdk_42_method_149_code (6 : Nat) (Option.none : Option Jvm.ClassFile.FieldType)).before args0 about1 = true := code_word (m := ⟨7, 2⟩) (meth := k7m2) (c := k7c2) (by decide +kernel) rfl rfl rfl (by decide +kernel)
set_option maxRecDepth 65536 in
theorem w_c3 : (Jvm.Cond.code ({ cls := "java/lang/Object", name := "<init>", desc := "()V" } : Jvm.MethodName) object_method_1_code (1 : Nat) (Option.none : Option Jvm.ClassFile.FieldType)).before args0 about1 = true := code_word (m := ⟨0, 0⟩) (meth := k0m0) (c := k0c0) (by decide +kernel) rfl rfl rfl (by decide +kernel)
set_option maxRecDepth 65536 in
theorem w_c4 : (Jvm.Cond.code ({ cls := "com/example/tierwright/tierwright/InstrumentKindRedemptionDecidedPinLaw", name := "discountOf", desc := "(I)Lcom/example/tierwright/tierwright/MaturityDiscount;" } : Jvm.MethodName) method_2_code (2 : Nat) (Option.some (Jvm.ClassFile.FieldType.object "com/example/tierwright/tierwright/MaturityDiscount"))).before args0 about1 = true := code_word (m := ⟨1, 1⟩) (meth := k1m1) (c := k1c1) (by decide +kernel) rfl rfl rfl (by decide +kernel)
set_option maxRecDepth 65536 in
theorem w_c5 : (Jvm.Cond.code ({ cls := "com/example/tierwright/tierwright/InstrumentKind", name := "<init>", desc := "(Ljava/lang/String;Lcom/example/tierwright/tierwright/MaturityDiscount;)V" } : Jvm.MethodName) prog_24_method_5_code (3 : Nat) (Option.none : Option Jvm.ClassFile.FieldType)).before args0 about1 = true := code_word (m := ⟨9, 3⟩) (meth := k9m3) (c := k9c3) (by decide +kernel) rfl rfl rfl (by decide +kernel)
set_option maxRecDepth 65536 in
theorem w_c6 : (Jvm.Cond.code ({ cls := "com/example/tierwright/tierwright/InstrumentKind", name := "<init>", desc := "(Ljava/lang/String;Lcom/example/tierwright/tierwright/MaturityDiscount;Lcom/example/tierwright/tierwright/TermsScreen;Lcom/example/tierwright/tierwright/Cumulation;)V" } : Jvm.MethodName) prog_24_method_3_code (5 : Nat) (Option.none : Option Jvm.ClassFile.FieldType)).before args0 about1 = true := code_word (m := ⟨9, 2⟩) (meth := k9m2) (c := k9c2) (by decide +kernel) rfl rfl rfl (by decide +kernel)
set_option maxRecDepth 65536 in
theorem w_c7 : (Jvm.Cond.code ({ cls := "com/example/tierwright/tierwright/InstrumentKind", name := "<init>", desc := "(Ljava/lang/String;Lcom/example/tierwright/tierwright/MaturityDiscount;Lcom/example/tierwright/tierwright/TermsScreen;Lcom/example/tierwright/tierwright/Cumulation;Lcom/example/tierwright/tierwright/Denomination;)V" } : Jvm.MethodName) prog_24_method_2_code (6 : Nat) (Option.none : Option Jvm.ClassFile.FieldType)).before args0 about1 = true := code_word (m := ⟨9, 1⟩) (meth := k9m1) (c := k9c1) (by decide +kernel) rfl rfl rfl (by decide +kernel)
set_option maxRecDepth 65536 in
theorem w_c8 : (Jvm.Cond.code ({ cls := "com/example/tierwright/tierwright/InstrumentKind", name := "<init>", desc := "(Ljava/lang/String;Lcom/example/tierwright/tierwright/MaturityDiscount;Lcom/example/tierwright/tierwright/TermsScreen;Lcom/example/tierwright/tierwright/Cumulation;Lcom/example/tierwright/tierwright/Denomination;Lcom/example/tierwright/tierwright/RedemptionTerms;)V" } : Jvm.MethodName) prog_24_method_1_code (7 : Nat) (Option.none : Option Jvm.ClassFile.FieldType)).before args0 about1 = true := code_word (m := ⟨9, 0⟩) (meth := k9m0) (c := k9c0) (by decide +kernel) rfl rfl rfl (by decide +kernel)
set_option maxRecDepth 65536 in
theorem w_c9 : (Jvm.Cond.code ({ cls := "java/lang/Record", name := "<init>", desc := "()V" } : Jvm.MethodName) jdk_30_method_1_code (1 : Nat) (Option.none : Option Jvm.ClassFile.FieldType)).before args0 about1 = true := code_word (m := ⟨8, 0⟩) (meth := k8m0) (c := k8c0) (by decide +kernel) rfl rfl rfl (by decide +kernel)
set_option maxRecDepth 65536 in
theorem w_c10 : (Jvm.Cond.code ({ cls := "java/util/Objects", name := "requireNonNull", desc := "(Ljava/lang/Object;Ljava/lang/String;)Ljava/lang/Object;" } : Jvm.MethodName) jdk_31_method_11_code (2 : Nat) (Option.some (Jvm.ClassFile.FieldType.object "java/lang/Object"))).before args0 about1 = true := code_word (m := ⟨13, 1⟩) (meth := k13m1) (c := k13c1) (by decide +kernel) rfl rfl rfl (by decide +kernel)
set_option maxRecDepth 65536 in
theorem w_c11 : (Jvm.Cond.code ({ cls := "com/example/tierwright/tierwright/InstrumentKind", name := "redemptionDecided", desc := "()Z" } : Jvm.MethodName) prog_24_method_8_code (1 : Nat) (Option.some Jvm.ClassFile.FieldType.boolean)).before args0 about1 = true := code_word (m := ⟨9, 4⟩) (meth := k9m4) (c := k9c4) (by decide +kernel) rfl rfl rfl (by decide +kernel)
set_option maxRecDepth 65536 in
theorem w_c12 : (Jvm.Cond.code ({ cls := "com/example/tierwright/tierwright/InstrumentKind", name := "redemptionTerms", desc := "()Lcom/example/tierwright/tierwright/RedemptionTerms;" } : Jvm.MethodName) prog_24_method_17_code (1 : Nat) (Option.some (Jvm.ClassFile.FieldType.object "com/example/tierwright/tierwright/RedemptionTerms"))).before args0 about1 = true := code_word (m := ⟨9, 5⟩) (meth := k9m5) (c := k9c5) (by decide +kernel) rfl rfl rfl (by decide +kernel)
set_option maxRecDepth 65536 in
theorem w_c13 : (Jvm.Cond.code ({ cls := "java/lang/StringUTF16", name := "compress", desc := "([CII)[B" } : Jvm.MethodName) jdk_52_method_16_code (6 : Nat) (Option.some (Jvm.ClassFile.FieldType.array Jvm.ClassFile.FieldType.byte))).before args0 about1 = true := code_word (m := ⟨14, 2⟩) (meth := k14m2) (c := k14c2) (by decide +kernel) rfl rfl rfl (by decide +kernel)
set_option maxRecDepth 65536 in
theorem w_c14 : (Jvm.Cond.code ({ cls := "java/lang/StringUTF16", name := "compress", desc := "([CI[BII)I" } : Jvm.MethodName) jdk_52_method_21_code (7 : Nat) (Option.some Jvm.ClassFile.FieldType.int)).before args0 about1 = true := code_word (m := ⟨14, 3⟩) (meth := k14m3) (c := k14c3) (by decide +kernel) rfl rfl rfl (by decide +kernel)
set_option maxRecDepth 65536 in
theorem w_c15 : (Jvm.Cond.code ({ cls := "java/lang/StringUTF16", name := "coderFromArrayLen", desc := "([BI)B" } : Jvm.MethodName) jdk_52_method_15_code (2 : Nat) (Option.some Jvm.ClassFile.FieldType.byte)).before args0 about1 = true := code_word (m := ⟨14, 1⟩) (meth := k14m1) (c := k14c1) (by decide +kernel) rfl rfl rfl (by decide +kernel)
def codes1 : List Jvm.Cond := [Jvm.Cond.code x code maxLocals ret, Jvm.Cond.code ({ cls := "java/lang/String", name := "<init>", desc := "([C)V" } : Jvm.MethodName) jdk_42_method_3_code (2 : Nat) (Option.none : Option Jvm.ClassFile.FieldType), Jvm.Cond.code ({ cls := "java/lang/String", name := "<init>", desc := "([CIILjava/lang/Void;)V" } : Jvm.MethodName) jdk_42_method_149_code (6 : Nat) (Option.none : Option Jvm.ClassFile.FieldType), Jvm.Cond.code ({ cls := "java/lang/Object", name := "<init>", desc := "()V" } : Jvm.MethodName) object_method_1_code (1 : Nat) (Option.none : Option Jvm.ClassFile.FieldType), Jvm.Cond.code ({ cls := "com/example/tierwright/tierwright/InstrumentKindRedemptionDecidedPinLaw", name := "discountOf", desc := "(I)Lcom/example/tierwright/tierwright/MaturityDiscount;" } : Jvm.MethodName) method_2_code (2 : Nat) (Option.some (Jvm.ClassFile.FieldType.object "com/example/tierwright/tierwright/MaturityDiscount")), Jvm.Cond.code ({ cls := "com/example/tierwright/tierwright/InstrumentKind", name := "<init>", desc := "(Ljava/lang/String;Lcom/example/tierwright/tierwright/MaturityDiscount;)V" } : Jvm.MethodName) prog_24_method_5_code (3 : Nat) (Option.none : Option Jvm.ClassFile.FieldType), Jvm.Cond.code ({ cls := "com/example/tierwright/tierwright/InstrumentKind", name := "<init>", desc := "(Ljava/lang/String;Lcom/example/tierwright/tierwright/MaturityDiscount;Lcom/example/tierwright/tierwright/TermsScreen;Lcom/example/tierwright/tierwright/Cumulation;)V" } : Jvm.MethodName) prog_24_method_3_code (5 : Nat) (Option.none : Option Jvm.ClassFile.FieldType), Jvm.Cond.code ({ cls := "com/example/tierwright/tierwright/InstrumentKind", name := "<init>", desc := "(Ljava/lang/String;Lcom/example/tierwright/tierwright/MaturityDiscount;Lcom/example/tierwright/tierwright/TermsScreen;Lcom/example/tierwright/tierwright/Cumulation;Lcom/example/tierwright/tierwright/Denomination;)V" } : Jvm.MethodName) prog_24_method_2_code (6 : Nat) (Option.none : Option Jvm.ClassFile.FieldType), Jvm.Cond.code ({ cls := "com/example/tierwright/tierwright/InstrumentKind", name := "<init>", desc := "(Ljava/lang/String;Lcom/example/tierwright/tierwright/MaturityDiscount;Lcom/example/tierwright/tierwright/TermsScreen;Lcom/example/tierwright/tierwright/Cumulation;Lcom/example/tierwright/tierwright/Denomination;Lcom/example/tierwright/tierwright/RedemptionTerms;)V" } : Jvm.MethodName) prog_24_method_1_code (7 : Nat) (Option.none : Option Jvm.ClassFile.FieldType), Jvm.Cond.code ({ cls := "java/lang/Record", name := "<init>", desc := "()V" } : Jvm.MethodName) jdk_30_method_1_code (1 : Nat) (Option.none : Option Jvm.ClassFile.FieldType), Jvm.Cond.code ({ cls := "java/util/Objects", name := "requireNonNull", desc := "(Ljava/lang/Object;Ljava/lang/String;)Ljava/lang/Object;" } : Jvm.MethodName) jdk_31_method_11_code (2 : Nat) (Option.some (Jvm.ClassFile.FieldType.object "java/lang/Object")), Jvm.Cond.code ({ cls := "com/example/tierwright/tierwright/InstrumentKind", name := "redemptionDecided", desc := "()Z" } : Jvm.MethodName) prog_24_method_8_code (1 : Nat) (Option.some Jvm.ClassFile.FieldType.boolean), Jvm.Cond.code ({ cls := "com/example/tierwright/tierwright/InstrumentKind", name := "redemptionTerms", desc := "()Lcom/example/tierwright/tierwright/RedemptionTerms;" } : Jvm.MethodName) prog_24_method_17_code (1 : Nat) (Option.some (Jvm.ClassFile.FieldType.object "com/example/tierwright/tierwright/RedemptionTerms")), Jvm.Cond.code ({ cls := "java/lang/StringUTF16", name := "compress", desc := "([CII)[B" } : Jvm.MethodName) jdk_52_method_16_code (6 : Nat) (Option.some (Jvm.ClassFile.FieldType.array Jvm.ClassFile.FieldType.byte)), Jvm.Cond.code ({ cls := "java/lang/StringUTF16", name := "compress", desc := "([CI[BII)I" } : Jvm.MethodName) jdk_52_method_21_code (7 : Nat) (Option.some Jvm.ClassFile.FieldType.int), Jvm.Cond.code ({ cls := "java/lang/StringUTF16", name := "coderFromArrayLen", desc := "([BI)B" } : Jvm.MethodName) jdk_52_method_15_code (2 : Nat) (Option.some Jvm.ClassFile.FieldType.byte)]
set_option maxRecDepth 65536 in
theorem codes_eq : words1.filter isCode = codes1 := rfl
theorem w_codes : ∀ c ∈ words1.filter isCode, c.before args0 about1 = true := by
  rw [codes_eq]
  intro c hc
  simp only [codes1, List.mem_cons, List.not_mem_nil, or_false] at hc
  rcases hc with rfl | rfl | rfl | rfl | rfl | rfl | rfl | rfl | rfl | rfl | rfl | rfl | rfl | rfl | rfl | rfl
  · exact w_c0
  · exact w_c1
  · exact w_c2
  · exact w_c3
  · exact w_c4
  · exact w_c5
  · exact w_c6
  · exact w_c7
  · exact w_c8
  · exact w_c9
  · exact w_c10
  · exact w_c11
  · exact w_c12
  · exact w_c13
  · exact w_c14
  · exact w_c15
set_option maxRecDepth 65536 in
theorem w_t1 : (words1.take 24).all (fun c => isCode c || c.before args0 about1) = true := by decide +kernel
set_option maxRecDepth 65536 in
theorem w_t2 : ((words1.drop 24).take 24).all (fun c => isCode c || c.before args0 about1) = true := by decide +kernel
set_option maxRecDepth 65536 in
theorem w_t3 : (((words1.drop 24).drop 24).take 24).all (fun c => isCode c || c.before args0 about1) = true := by decide +kernel
set_option maxRecDepth 65536 in
theorem w_t4 : ((((words1.drop 24).drop 24).drop 24).take 24).all (fun c => isCode c || c.before args0 about1) = true := by decide +kernel
set_option maxRecDepth 65536 in
theorem w_t5 : ((((words1.drop 24).drop 24).drop 24).drop 24).all (fun c => isCode c || c.before args0 about1) = true := by decide +kernel
theorem w_tables : (allAtoms (Jvm.Cond.code x code maxLocals ret :: tables_1)).before args0 about1 = true := by
  rw [allAtoms_all]
  show words1.all (fun c => c.before args0 about1) = true
  refine all_split ?_ w_codes
  rw [← List.take_append_drop 24 words1, List.all_append, w_t1, ← List.take_append_drop 24 (words1.drop 24), List.all_append, w_t2, ← List.take_append_drop 24 ((words1.drop 24).drop 24), List.all_append, w_t3, ← List.take_append_drop 24 (((words1.drop 24).drop 24).drop 24), List.all_append, w_t4, w_t5]
  rfl
set_option maxRecDepth 65536 in
theorem w_rest : rest_1_c.before args0 about1 = true := by decide +kernel
set_option maxRecDepth 65536 in
theorem w_case : (Jvm.Cond.and given_1 narrow_1).before args0 about1 = true := by decide +kernel
set_option maxRecDepth 65536 in
theorem w_consts : constsHeld consts_1 about1 := Jvm.Lit.constsHeldB_iff.mp (by decide +kernel)
theorem w_applies : (headSpec (Jvm.Cond.code x code maxLocals ret :: tables_1) room_1).applies x e0.platform about1 = true :=
  (Spec.applies_iff w_frames).mpr ⟨w_running, w_runnable, w_alone, w_named, w_hears, w_ripe, w_room, w_tables⟩
theorem atStart : AtStart classFile x code maxLocals ret World_1 tables_1 room_1 Calls_1 rest_1 Pre_1 launch0 p0 e0 about1 theMethod args0 below0 :=
  ⟨lists_1, trivial, launch0.admits_env _ _ _, launch0.least_env, fairChoices_fair.cas, fairChoices_fair.clock, w_frames, w_args, w_heap, w_applies, ⟨w_consts, trivial⟩, w_rest, w_case⟩
end start1
theorem witness_1 : WitnessClaimed_1 := ⟨start1.p0, start1.e0, start1.about1, start1.theMethod, start1.args0, start1.below0, start1.atStart⟩
end Jvm.Pilot.@@N@@
