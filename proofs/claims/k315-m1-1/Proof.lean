import JvmDerived
import JvmDerived.Pilot.@@N@@Statement
import JvmDerived.Pilot.@@N@@Code
set_option linter.unusedVariables false
set_option linter.unusedSimpArgs false
namespace Jvm.OwnW
open Jvm Jvm.ClassFile Sem Op Lib Jvm.Free Jvm.Stand Jvm.LawKit Jvm.RoadKit
/-! A small logic of walks of its own: a store L (what is known of single cells), one rule an instruction. -/
abbrev Ent : Type := Addr × Bool × (Cell → Prop)
abbrev Store : Type := List Ent
abbrev Lay : Type := List (String × String × String)
def FldC (Z : State) (C n d : String) (v : Value) (cell : Cell) : Prop := ∃ (cf : ClassId) (k : Class) (i : Nat) (f : Field), Z.fieldFound? C n d = some (cf, k, i, f) ∧ f.isStatic = false ∧ cell.vm ≠ .unknown ∧ cell.vm.isStatics = false ∧ Z.vm.assignable cell.cls cf = true ∧ cell.slots[f.slot]? = some v
def ExaC (Z : State) (C : String) (cell : Cell) : Prop := ∃ k : Class, Z.vm.findClass C = some cell.cls ∧ Z.vm.classes[cell.cls]? = some k ∧ cell.vm.isStatics = false ∧ (k.kind = .ordinary → cell.slots.size = k.instanceTypes.size)
/-- an object of exactly the class C, the fields of lay hold vs -/
def OB (Z : State) (C : String) (lay : Lay) (vs : List Value) (c : Cell) : Prop := ExaC Z C c ∧ ∀ (j : Nat) (f : String × String × String) (v : Value), lay[j]? = some f → vs[j]? = some v → FldC Z f.1 f.2.1 f.2.2 v c
/-- an array of ty that holds vs -/
def AR (Z : State) (ty : FieldType) (vs : List Value) (c : Cell) : Prop := Z.isArrayOf c ty ∧ c.vm ≠ .unknown ∧ c.slots.toList = vs ∧ vs.length < 2 ^ 31
/-- an array of references over the class C -/
def RA (Z : State) (C : String) (vs : List Value) (c : Cell) : Prop := AR Z (.object C) vs c ∧ Ovr Z c.cls C
def Inv (Z : State) (EL : List (String × Nat)) (vm : Vm) (h : Heap) (L : Store) : Prop :=
  Ext Z.heap h ∧ CHv Z EL vm h ∧ (∀ o ∈ L, ∃ c : Cell, h[o.1]? = some c ∧ o.2.2 c) ∧ (∀ o ∈ L, o.2.1 = true → Z.heap.size ≤ o.1 ∧ Safe Z EL vm h o.1) ∧ L.Pairwise (fun o o' => (o.2.1 = true ∨ o'.2.1 = true) → o.1 ≠ o'.1)
section Facts
variable {Z : State} {EL : List (String × Nat)} {vm vm' : Vm} {h h' : Heap} {L L' L0 : Store} {a b : Addr} {C n d : String} {v w : Value} {c c' : Cell} {P P' : Cell → Prop} {lay : Lay} {vs : List Value} {j sl : Nat} {ty : FieldType} {a0 : Array Value} {fl : Bool}
theorem fld_of (hc : h[a]? = some c) (F : FldC Z C n d v c) : Fld Z h a C n d v := by obtain ⟨cf, k, i, f, r⟩ := F; exact ⟨c, cf, k, i, f, hc, r⟩
theorem of_fld (hc : h[a]? = some c) (F : Fld Z h a C n d v) : FldC Z C n d v c := by
  obtain ⟨c1, cf, k, i, f, h1, r⟩ := F
  cases hc.symm.trans h1
  exact ⟨cf, k, i, f, r⟩
theorem exa_of (hc : h[a]? = some c) (F : ExaC Z C c) : Exa Z h a C := by obtain ⟨k, r⟩ := F; exact ⟨c, k, hc, r⟩
theorem of_exa (hc : h[a]? = some c) (F : Exa Z h a C) : ExaC Z C c := by
  obtain ⟨c1, k, h1, r⟩ := F
  cases hc.symm.trans h1
  exact ⟨k, r⟩
theorem OB.exa (F : OB Z C lay vs c) (hc : h[a]? = some c) : Exa Z h a C := exa_of hc F.1
theorem OB.fld {f : String × String × String} (F : OB Z C lay vs c) (hc : h[a]? = some c) (hj : lay[j]? = some f) (hv : vs[j]? = some v) : Fld Z h a f.1 f.2.1 f.2.2 v := fld_of hc (F.2 j f v hj hv)
theorem AR.arr (F : AR Z ty vs c) (hc : h[a]? = some c) : Arr Z h a c ty := ⟨hc, F.1, F.2.1⟩
theorem AR.size (F : AR Z ty vs c) : c.slots.size = vs.length := by rw [← F.2.2.1]; simp
theorem AR.get (F : AR Z ty vs c) (hv : vs[j]? = some v) : c.slots[j]? = some v := by rw [← F.2.2.1] at hv; simpa using hv
theorem AR.set (F : AR Z ty vs c) (j : Nat) (v : Value) : AR Z ty (vs.set j v) (c.setSlot j v) :=
  ⟨F.1, F.2.1, by rw [← F.2.2.1]; simp [Cell.setSlot], by rw [List.length_set]; exact F.2.2.2⟩
theorem Inv.at_ (I : Inv Z EL vm h L) (m : (a, fl, P) ∈ L) : ∃ c : Cell, h[a]? = some c ∧ P c := I.2.2.1 _ m
theorem Inv.perm (p : L.Perm L') (I : Inv Z EL vm h L) : Inv Z EL vm h L' :=
  ⟨I.1, I.2.1, fun o ho => I.2.2.1 o (p.symm.subset ho), fun o ho => I.2.2.2.1 o (p.symm.subset ho), (p.pairwise_iff (fun {x y} q r => (q r.symm).symm)).mp I.2.2.2.2⟩
theorem Inv.sub (p : L'.Sublist L) (I : Inv Z EL vm h L) : Inv Z EL vm h L' :=
  ⟨I.1, I.2.1, fun o ho => I.2.2.1 o (p.subset ho), fun o ho => I.2.2.2.1 o (p.subset ho), I.2.2.2.2.sublist p⟩
theorem Inv.weak (hP : ∀ c, P c → P' c) (I : Inv Z EL vm h ((a, fl, P) :: L)) : Inv Z EL vm h ((a, fl, P') :: L) := by
  obtain ⟨h1, h2, h3, h4, h5⟩ := I
  rw [List.pairwise_cons] at h5
  refine ⟨h1, h2, fun o ho => ?_, fun o ho => ?_, List.pairwise_cons.mpr ⟨fun o ho q => h5.1 o ho q, h5.2⟩⟩
  · rcases List.mem_cons.mp ho with rfl | ho
    · obtain ⟨c, e1, e2⟩ := h3 (a, fl, P) (List.mem_cons_self ..); exact ⟨c, e1, hP c e2⟩
    · exact h3 o (List.mem_cons_of_mem _ ho)
  · rcases List.mem_cons.mp ho with rfl | ho
    · exact h4 (a, fl, P) (List.mem_cons_self ..)
    · exact h4 o (List.mem_cons_of_mem _ ho)
theorem Inv.lt (I : Inv Z EL vm h L) {o : Ent} (m : o ∈ L) : o.1 < h.size := by obtain ⟨c, e, -⟩ := I.2.2.1 o m; exact (Array.getElem?_eq_some_iff.mp e).1
/-- a new cell -/
theorem Inv.new (I : Inv Z EL vm h L) (E : Ext h h') (hc : h'[h.size]? = some c) (hP : P c) : Inv Z EL vm h' ((h.size, true, P) :: L) := by
  have I0 := I
  obtain ⟨h1, h2, h3, h4, h5⟩ := I
  refine ⟨⟨Nat.le_trans h1.1 E.1, fun x c q => E.2 x c (h1.2 x c q)⟩, h2.ext E, fun o ho => ?_, fun o ho q => ?_, List.pairwise_cons.mpr ⟨fun o ho _ q => ?_, h5⟩⟩
  · rcases List.mem_cons.mp ho with rfl | ho
    · exact ⟨c, hc, hP⟩
    · obtain ⟨c1, e1, e2⟩ := h3 o ho; exact ⟨c1, E.2 _ _ e1, e2⟩
  · rcases List.mem_cons.mp ho with rfl | ho
    · exact ⟨h1.1, Safe.ext E h2 (Safe.new (Nat.le_refl _))⟩
    · exact ⟨(h4 o ho q).1, Safe.ext E h2 (h4 o ho q).2⟩
  · have := I0.lt ho
    exact absurd q (Nat.ne_of_gt this)
/-- a write to the first -/
theorem Inv.wr (I : Inv Z EL vm h ((a, true, P) :: L)) (W : Wr h h' a sl v) (hP : ∀ c, h[a]? = some c → P c → P' (c.setSlot sl v)) : Inv Z EL vm h' ((a, true, P') :: L) := by
  have I0 := I
  obtain ⟨h1, h2, h3, h4, h5⟩ := I
  have hs := (h4 _ (List.mem_cons_self ..) rfl)
  rw [List.pairwise_cons] at h5
  have W0 := W
  obtain ⟨cell, e1, e2, e3, rfl⟩ := W
  refine ⟨⟨by simpa using h1.1, fun x c q => ?_⟩, h2.wr W0 hs.2, fun o ho => ?_, fun o ho q => ?_, List.pairwise_cons.mpr ⟨fun o ho q => h5.1 o ho q, h5.2⟩⟩
  · have hx : x < Z.heap.size := (Array.getElem?_eq_some_iff.mp q).1
    have hne : a ≠ x := fun e => by have := hs.1; rw [e] at this; exact absurd hx (Nat.not_lt.mpr this)
    rw [Array.getElem?_setIfInBounds_ne hne]; exact h1.2 x c q
  · rcases List.mem_cons.mp ho with rfl | ho
    · obtain ⟨c1, q1, q2⟩ := h3 (a, true, P) (List.mem_cons_self ..)
      cases e1.symm.trans q1
      exact ⟨_, Array.getElem?_setIfInBounds_self_of_lt (Array.getElem?_eq_some_iff.mp e1).1, hP _ e1 q2⟩
    · obtain ⟨c1, q1, q2⟩ := h3 o (List.mem_cons_of_mem _ ho)
      have hne : a ≠ o.1 := h5.1 o ho (Or.inl rfl)
      exact ⟨c1, by rw [Array.getElem?_setIfInBounds_ne hne]; exact q1, q2⟩
  · rcases List.mem_cons.mp ho with rfl | ho
    · exact ⟨hs.1, Safe.wr W0 hs.2 h2 hs.2⟩
    · have q2 := h4 o (List.mem_cons_of_mem _ ho) q
      exact ⟨q2.1, Safe.wr W0 hs.2 h2 q2.2⟩
/-- the tables go on -/
theorem Inv.later (I : Inv Z EL vm h L) (E : Ext h h') (A : CHr Z EL vm h vm' h') : Inv Z EL vm' h' L := by
  have I0 := I
  obtain ⟨h1, h2, h3, h4, h5⟩ := I
  refine ⟨⟨Nat.le_trans h1.1 E.1, fun x c q => E.2 x c (h1.2 x c q)⟩, A.1, fun o ho => ?_, fun o ho q => ?_, h5⟩
  · obtain ⟨c1, e1, e2⟩ := h3 o ho; exact ⟨c1, E.2 _ _ e1, e2⟩
  · exact ⟨(h4 o ho q).1, A.safe (I0.lt ho) (h4 o ho q).2⟩
/-- a cell that isn't written -/
theorem Inv.old (I : Inv Z EL vm h L) (hc : h[a]? = some c) (hP : P c) (hne : ∀ x, Z.heap.size ≤ x → Safe Z EL vm h x → x ≠ a) : Inv Z EL vm h ((a, false, P) :: L) := by
  obtain ⟨h1, h2, h3, h4, h5⟩ := I
  refine ⟨h1, h2, fun o ho => ?_, fun o ho q => ?_, List.pairwise_cons.mpr ⟨fun o ho q r => ?_, h5⟩⟩
  · rcases List.mem_cons.mp ho with rfl | ho
    · exact ⟨c, hc, hP⟩
    · exact h3 o ho
  · rcases List.mem_cons.mp ho with rfl | ho
    · cases q
    · exact h4 o ho q
  · rcases q with q | q
    · cases q
    · exact hne o.1 (h4 o ho q).1 (h4 o ho q).2 r.symm
theorem Inv.ne {o o' : Ent} (I : Inv Z EL vm h L) {i j : Nat} (hi : L[i]? = some o) (hj : L[j]? = some o') (hij : i < j) (hf : o.2.1 = true ∨ o'.2.1 = true) : o.1 ≠ o'.1 := by
  obtain ⟨h1, e1⟩ := List.getElem?_eq_some_iff.mp hi
  obtain ⟨h2, e2⟩ := List.getElem?_eq_some_iff.mp hj
  have := List.pairwise_iff_getElem.mp I.2.2.2.2 i j h1 h2 hij
  rw [e1, e2] at this
  exact this hf
/-- the slots of a layout are unlike -/
def LayOk (Z : State) (a0 : Array Value) (C : String) (lay : Lay) : Prop := (∀ f ∈ lay, Laid Z a0 C f.1 f.2.1 f.2.2) ∧ (lay.map (·.2.1)).Nodup ∧ ∀ f ∈ lay, ∃ t, parseFieldDescriptor f.2.2 = some t
theorem LayOk.ne {f f' : String × String × String} {j' : Nat} (K : LayOk Z a0 C lay) (hj : lay[j]? = some f) (hj' : lay[j']? = some f') (hne : j ≠ j') : RoadKit.slotOf Z f.1 f.2.1 f.2.2 ≠ RoadKit.slotOf Z f'.1 f'.2.1 f'.2.2 := by
  have m1 := List.mem_of_getElem? hj
  have m2 := List.mem_of_getElem? hj'
  obtain ⟨t1, q1⟩ := K.2.2 f m1
  obtain ⟨t2, q2⟩ := K.2.2 f' m2
  refine slot_ne (K.1 f m1) (K.1 f' m2) (fun e => ?_) q1 q2
  have n1 : (lay.map (·.2.1))[j]? = some f.2.1 := by simp [hj]
  have n2 : (lay.map (·.2.1))[j']? = some f'.2.1 := by simp [hj']
  obtain ⟨l1, g1⟩ := List.getElem?_eq_some_iff.mp n1
  obtain ⟨l2, g2⟩ := List.getElem?_eq_some_iff.mp n2
  have := List.pairwise_iff_getElem.mp (show (lay.map (·.2.1)).Pairwise (· ≠ ·) from K.2.1)
  rcases Nat.lt_or_gt_of_ne hne with q | q
  · exact this j j' l1 l2 q (by rw [g1, g2]; exact e)
  · exact this j' j l2 l1 q (by rw [g1, g2]; exact e.symm)
theorem OB.set {f : String × String × String} (K : LayOk Z a0 C lay) (F : OB Z C lay vs c) (hj : lay[j]? = some f) (hv : vs[j]? = some w) (v : Value) : OB Z C lay (vs.set j v) (c.setSlot (RoadKit.slotOf Z f.1 f.2.1 f.2.2) v) := by
  obtain ⟨⟨k, x1, x2, x3, x4⟩, F2⟩ := F
  have Fj := F2 j f w hj hv
  obtain ⟨cf, kf, i, fi, y1, y2, y3, y4, y5, y6⟩ := Fj
  have es : RoadKit.slotOf Z f.1 f.2.1 f.2.2 = fi.slot := by simp [RoadKit.slotOf, y1]
  refine ⟨⟨k, x1, x2, x3, fun q => by rw [sz_set]; exact x4 q⟩, fun j' f' v' h1 h2 => ?_⟩
  by_cases e : j = j'
  · subst e
    cases hj.symm.trans h1
    have hlt : j < vs.length := (List.getElem?_eq_some_iff.mp hv).1
    have : v' = v := by rw [List.getElem?_set_self hlt] at h2; exact (Option.some.inj h2).symm
    subst this
    have hsl := (Array.getElem?_eq_some_iff.mp y6).1
    exact ⟨cf, kf, i, fi, y1, y2, y3, y4, y5, by rw [es]; simp [Cell.setSlot, hsl]⟩
  · rw [List.getElem?_set_ne e] at h2
    obtain ⟨cf', kf', i', fi', z1, z2, z3, z4, z5, z6⟩ := F2 j' f' v' h1 h2
    have es' : RoadKit.slotOf Z f'.1 f'.2.1 f'.2.2 = fi'.slot := by simp [RoadKit.slotOf, z1]
    have hne := K.ne hj h1 e
    rw [es, es'] at hne
    exact ⟨cf', kf', i', fi', z1, z2, z3, z4, z5, by rw [es]; simp only [Cell.setSlot]; rw [Array.getElem?_setIfInBounds_ne hne]; exact z6⟩
end Facts
/-- the store with the entry o taken out -/
def Ex (L : Store) (o : Ent) (L0 : Store) : Prop := L.Perm (o :: L0)
theorem Ex.here {o : Ent} {L : Store} : Ex (o :: L) o L := List.Perm.refl _
theorem Ex.there {o x : Ent} {L L0 : Store} (h : Ex L o L0) : Ex (x :: L) o (x :: L0) := (List.Perm.cons x h).trans (List.Perm.swap o x L0)
/-- a local is written over -/
def LS1 (k : Nat) (v : Value) (Ls Ls' : List Slot) : Prop := v.category = 1 → storeLocals ⟨Ls⟩ k v = some ⟨Ls'⟩ ∧ ∃ o, Ls[k]? = some o ∧ One o ∧ Ls' = Ls.set k (.val v)
theorem LS1.of {Ls : List Slot} {i : Nat} {v : Value} {o : Slot} (hold : Ls[i]? = some o) (ho : One o) : LS1 i v Ls (Ls.set i (.val v)) := fun hv => by
  have q := XS.store1 (l := ⟨Ls⟩) (i := i) (v := v) (o := o) (by simpa using hold) ho hv
  exact ⟨by simpa using q, o, hold, ho, rfl⟩
theorem LS1.here {v : Value} {o : Slot} {Ls : List Slot} (ho : One o) : LS1 0 v (o :: Ls) (.val v :: Ls) := LS1.of (Ls := o :: Ls) (i := 0) rfl ho
theorem LS1.there {k : Nat} {v : Value} {x : Slot} {Ls Ls' : List Slot} (h : LS1 k v Ls Ls') : LS1 (k + 1) v (x :: Ls) (x :: Ls') := fun hv => by
  obtain ⟨-, o, h1, h2, rfl⟩ := h hv
  exact LS1.of (Ls := x :: Ls) (i := k + 1) (by simpa using h1) h2 hv
def LS2 (k : Nat) (v : Int64) (Ls Ls' : List Slot) : Prop := ∃ (A B : List Slot) (o1 o2 : Slot), Ls = A ++ o1 :: o2 :: B ∧ A.length = k ∧ ((One o1 ∧ One o2) ∨ ∃ x, o1 = .val (.long x) ∧ o2 = .second) ∧ Ls' = A ++ .val (.long v) :: .second :: B
theorem LS2.here {v : Int64} {o1 o2 : Slot} {Ls : List Slot} (ho : (One o1 ∧ One o2) ∨ ∃ x, o1 = .val (.long x) ∧ o2 = .second) : LS2 0 v (o1 :: o2 :: Ls) (.val (.long v) :: .second :: Ls) := ⟨[], Ls, o1, o2, rfl, rfl, ho, rfl⟩
theorem LS2.there {k : Nat} {v : Int64} {x : Slot} {Ls Ls' : List Slot} (h : LS2 k v Ls Ls') : LS2 (k + 1) v (x :: Ls) (x :: Ls') := by
  obtain ⟨A, B, o1, o2, rfl, h2, h3, rfl⟩ := h
  exact ⟨x :: A, B, o1, o2, rfl, by simp [h2], h3, rfl⟩
theorem LS2.store {k : Nat} {v : Int64} {Ls Ls' : List Slot} (h : LS2 k v Ls Ls') : storeLocals ⟨Ls⟩ k (.long v) = some ⟨Ls'⟩ := by
  obtain ⟨A, B, o1, o2, rfl, rfl, h3, rfl⟩ := h
  have hv : (Value.long v).category = 2 := rfl
  rcases h3 with ⟨h1 | ⟨w1, h1, g1⟩, h2 | ⟨w2, h2, g2⟩⟩ | ⟨x, h1, h2⟩
  · subst h1 h2; simp [storeLocals, storeSelf, setAt, hv]
  · subst h1 h2; simp [storeLocals, storeSelf, setAt, hv, g2]
  · subst h1 h2; simp [storeLocals, storeSelf, setAt, hv, g1]
  · subst h1 h2; simp [storeLocals, storeSelf, setAt, hv, g1, g2]
  · have hx : (Value.long x).category = 2 := rfl
    subst h1 h2; simp [storeLocals, storeSelf, setAt, hv, hx]
/-- THE WALK: from pc with these locals and this stack, the store L, cb cells and sb slots yet to be made, the body comes to its return, and Q holds there -/
def Wk (l : Launch) (Z : State) (a0 : Array Value) (EL : List (String × Nat)) (y : MethodName) (bytes : ByteArray) (mx : Nat) (ret : Option FieldType) (R : Room) (Q : Option Value → Store → Prop) (L : Store) (cb sb pc : Nat) (Ls : List Slot) (St : List Value) : Prop :=
  ∀ (p : Program) (e : Env) (s : State) (m : MethodId) (args : Array Value) (below : List Frame) (meth : Method) (c : Code) (T : State) (vm0 : Vm) (k0 : Nat) (locs : List Loc) (cells slots : Nat),
    p.tables.exec = Jvm.exec → c.code = bytes → c.maxLocals = mx → meth.sig.returnType = ret → meth.locks = false → meth.name = y.name → vm0.findClass y.cls = some m.cls →
    Stand p l e R (s.setVm vm0) m args below meth c T locs cells slots → s.Since vm0 k0 → k0 ≤ T.heap.size → Z.Warmed39 vm0 → EW Z a0 EL → Inv Z EL vm0 T.heap L → Fr Z.heap.size locs → cells + cb ≤ R.cells → slots + sb ≤ R.slots →
    ∃ (fin : State) (v : Option Value) (Lc : List Loc) (L' : Store), Steps p.tables e below (T.setTop (mkF m pc ⟨Ls⟩ St)) fin ∧ fin.status = .running ∧ Ended fin below (.returned v) ∧ Q v L' ∧ Inv Z EL fin.vm fin.heap L' ∧ Fr Z.heap.size Lc ∧ ReturnedEndW s (.returned v) fin Lc R.cells R.slots
/-- THE CONTRACT of a body -/
def Ct (l : Launch) (Z : State) (EL : List (String × Nat)) (y : MethodName) (bytes : ByteArray) (mx : Nat) (ret : Option FieldType) (R : Room) (as' : Array Value) (L : Store) (Q : Option Value → Store → Prop) : Prop :=
  ∀ ws : List Jvm.Cond, MetFree l y (head1 (Jvm.Cond.code y bytes mx ret :: ws) R) (fun a U => a = as' ∧ Z.Warmed39 U.vm ∧ Inv Z EL U.vm U.heap L) (fun _ _ _ _ _ => True) (fun _ U o U' => ∃ v Lc L', o = .returned v ∧ Q v L' ∧ Inv Z EL U'.vm U'.heap L' ∧ Fr Z.heap.size Lc ∧ ReturnedEndW U o U' Lc R.cells R.slots)
theorem endMono {s t : State} {o : Outcome} {L : List Loc} {k n k' n' : Nat} (h : ReturnedEndW s o t L k n) (hk : k ≤ k') (hn : n ≤ n') : ReturnedEndW s o t L k' n' := ⟨h.1, h.2.1, h.2.2.1, h.2.2.2.mono hk hn⟩
section Rules
variable {l : Launch} {Z : State} {a0 : Array Value} {EL : List (String × Nat)} {y : MethodName} {bytes : ByteArray} {mx : Nat} {ret : Option FieldType} {R : Room} {Q Q' : Option Value → Store → Prop} {L L0 L' : Store} {cb sb pc q : Nat} {Ls Ls' : List Slot} {St rest : List Value}
theorem Wk.mono (k : Wk l Z a0 EL y bytes mx ret R Q L cb sb pc Ls St) {cb' sb' : Nat} (h1 : cb ≤ cb') (h2 : sb ≤ sb') : Wk l Z a0 EL y bytes mx ret R Q L cb' sb' pc Ls St := by
  intro p e s m args below meth c T vm0 k0 locs cells slots hx hby hmx hret hlk hnm hown X hS hk hZ hE hI hF hc hs
  exact k p e s m args below meth c T vm0 k0 locs cells slots hx hby hmx hret hlk hnm hown X hS hk hZ hE hI hF (Nat.le_trans (Nat.add_le_add_left h1 _) hc) (Nat.le_trans (Nat.add_le_add_left h2 _) hs)
theorem Wk.imp (hq : ∀ v L, Q v L → Q' v L) (k : Wk l Z a0 EL y bytes mx ret R Q L cb sb pc Ls St) : Wk l Z a0 EL y bytes mx ret R Q' L cb sb pc Ls St := by
  intro p e s m args below meth c T vm0 k0 locs cells slots hx hby hmx hret hlk hnm hown X hS hk hZ hE hI hF hc hs
  obtain ⟨fin, v, Lc, L', h1, h2, h3, h4, r⟩ := k p e s m args below meth c T vm0 k0 locs cells slots hx hby hmx hret hlk hnm hown X hS hk hZ hE hI hF hc hs
  exact ⟨fin, v, Lc, L', h1, h2, h3, hq _ _ h4, r⟩
theorem Wk.inv (hi : ∀ vm h, Inv Z EL vm h L → Inv Z EL vm h L') (k : Wk l Z a0 EL y bytes mx ret R Q L' cb sb pc Ls St) : Wk l Z a0 EL y bytes mx ret R Q L cb sb pc Ls St := by
  intro p e s m args below meth c T vm0 k0 locs cells slots hx hby hmx hret hlk hnm hown X hS hk hZ hE hI hF hc hs
  exact k p e s m args below meth c T vm0 k0 locs cells slots hx hby hmx hret hlk hnm hown X hS hk hZ hE (hi _ _ hI) hF hc hs
/-- the entry o comes to the front -/
theorem Wk.pull {o : Ent} (h : Ex L o L0) (k : Wk l Z a0 EL y bytes mx ret R Q (o :: L0) cb sb pc Ls St) : Wk l Z a0 EL y bytes mx ret R Q L cb sb pc Ls St := Wk.inv (fun _ _ I => I.perm h) k
theorem Wk.perm (h : L.Perm L') (k : Wk l Z a0 EL y bytes mx ret R Q L' cb sb pc Ls St) : Wk l Z a0 EL y bytes mx ret R Q L cb sb pc Ls St := Wk.inv (fun _ _ I => I.perm h) k
theorem Wk.sub (h : L'.Sublist L) (k : Wk l Z a0 EL y bytes mx ret R Q L' cb sb pc Ls St) : Wk l Z a0 EL y bytes mx ret R Q L cb sb pc Ls St := Wk.inv (fun _ _ I => I.sub h) k
theorem Wk.distinct {i j : Nat} {o o' : Ent} (hi : L[i]? = some o) (hj : L[j]? = some o') (hij : i < j) (hf : o.2.1 = true ∨ o'.2.1 = true) (k : o.1 ≠ o'.1 → Wk l Z a0 EL y bytes mx ret R Q L cb sb pc Ls St) : Wk l Z a0 EL y bytes mx ret R Q L cb sb pc Ls St := by
  intro p e s m args below meth c T vm0 k0 locs cells slots hx hby hmx hret hlk hnm hown X hS hk hZ hE hI hF hc hs
  exact k (hI.ne hi hj hij hf) p e s m args below meth c T vm0 k0 locs cells slots hx hby hmx hret hlk hnm hown X hS hk hZ hE hI hF hc hs
/-- an old object, known at the start -/
theorem Wk.old {a : Addr} {c0 : Cell} {P : Cell → Prop} (h0 : Z.heap[a]? = some c0) (hP : P c0) (k : Wk l Z a0 EL y bytes mx ret R Q ((a, false, P) :: L) cb sb pc Ls St) : Wk l Z a0 EL y bytes mx ret R Q L cb sb pc Ls St := by
  refine Wk.inv (fun vm h I => I.old (I.1.2 _ _ h0) hP fun x hx _ e => ?_) k
  subst e
  exact absurd (Array.getElem?_eq_some_iff.mp h0).1 (Nat.not_lt.mpr hx)
/-- one plain step -/
theorem Wk.pure {q : Nat} {Ls' : List Slot} {St' : List Value} (st : ∀ {p : Program} {e : Env} {below : List Frame} {T : State} {m : MethodId} {c : Code} {target : State}, At T m c below → p.tables.exec = Jvm.exec → c.code = bytes → Steps p.tables e below (T.setTop (mkF m q ⟨Ls'⟩ St')) target → Steps p.tables e below (T.setTop (mkF m pc ⟨Ls⟩ St)) target)
    (k : Wk l Z a0 EL y bytes mx ret R Q L cb sb q Ls' St') : Wk l Z a0 EL y bytes mx ret R Q L cb sb pc Ls St := by
  intro p e s m args below meth c T vm0 k0 locs cells slots hx hby hmx hret hlk hnm hown X hS hk hZ hE hI hF hc hs
  obtain ⟨fin, v, Lc, L', h1, r⟩ := k p e s m args below meth c T vm0 k0 locs cells slots hx hby hmx hret hlk hnm hown X hS hk hZ hE hI hF hc hs
  exact ⟨fin, v, Lc, L', st X.here hx hby h1, r⟩
theorem getL {k : Nat} {o : Slot} (h : Ls[k]? = some o) : (⟨Ls⟩ : Array Slot)[k]? = some o := by simpa using h
theorem Wk.iload_n {i : Fin 4} {u : Int32} (hd : decode bytes pc = .ok (.iload_n i, 1)) (hq : pc + 1 = q) (hl : Ls[i.val]? = some (.val (.int u))) (k : Wk l Z a0 EL y bytes mx ret R Q L cb sb q Ls (.int u :: St)) : Wk l Z a0 EL y bytes mx ret R Q L cb sb pc Ls (St) := by
  subst hq; exact Wk.pure (fun X hx hby r => XS.iloadN X hx rfl (hb hby hd) (getL hl) r) k
theorem Wk.iload {i : Nat} {u : Int32} (hd : decode bytes pc = .ok (.iload i, 2)) (hq : pc + 2 = q) (hl : Ls[i]? = some (.val (.int u))) (k : Wk l Z a0 EL y bytes mx ret R Q L cb sb q Ls (.int u :: St)) : Wk l Z a0 EL y bytes mx ret R Q L cb sb pc Ls (St) := by
  subst hq; exact Wk.pure (fun X hx hby r => XS.iload X hx rfl (hb hby hd) (getL hl) r) k
theorem Wk.aload_n {i : Fin 4} {u : Value} (hd : decode bytes pc = .ok (.aload_n i, 1)) (hq : pc + 1 = q) (hl : Ls[i.val]? = some (.val u)) (hr : u.isRef = true) (k : Wk l Z a0 EL y bytes mx ret R Q L cb sb q Ls (u :: St)) : Wk l Z a0 EL y bytes mx ret R Q L cb sb pc Ls (St) := by
  subst hq; exact Wk.pure (fun X hx hby r => XS.aloadN X hx rfl (hb hby hd) (getL hl) hr r) k
theorem Wk.aload {i : Nat} {u : Value} (hd : decode bytes pc = .ok (.aload i, 2)) (hq : pc + 2 = q) (hl : Ls[i]? = some (.val u)) (hr : u.isRef = true) (k : Wk l Z a0 EL y bytes mx ret R Q L cb sb q Ls (u :: St)) : Wk l Z a0 EL y bytes mx ret R Q L cb sb pc Ls (St) := by
  subst hq; exact Wk.pure (fun X hx hby r => XS.aload X hx rfl (hb hby hd) (getL hl) hr r) k
theorem Wk.lload_n {i : Fin 4} {u : Int64} (hd : decode bytes pc = .ok (.lload_n i, 1)) (hq : pc + 1 = q) (hl : Ls[i.val]? = some (.val (.long u))) (k : Wk l Z a0 EL y bytes mx ret R Q L cb sb q Ls (.long u :: St)) : Wk l Z a0 EL y bytes mx ret R Q L cb sb pc Ls (St) := by
  subst hq; exact Wk.pure (fun X hx hby r => XT.lloadN X hx rfl (hb hby hd) (getL hl) r) k
theorem Wk.lload {i : Nat} {u : Int64} (hd : decode bytes pc = .ok (.lload i, 2)) (hq : pc + 2 = q) (hl : Ls[i]? = some (.val (.long u))) (k : Wk l Z a0 EL y bytes mx ret R Q L cb sb q Ls (.long u :: St)) : Wk l Z a0 EL y bytes mx ret R Q L cb sb pc Ls (St) := by
  subst hq; exact Wk.pure (fun X hx hby r => XT.lload X hx rfl (hb hby hd) (getL hl) r) k
theorem Wk.istore_n {i : Fin 4} {u : Int32} (hd : decode bytes pc = .ok (.istore_n i, 1)) (hq : pc + 1 = q) (hl : LS1 i.val (.int u) Ls Ls') (k : Wk l Z a0 EL y bytes mx ret R Q L cb sb q Ls' (St)) : Wk l Z a0 EL y bytes mx ret R Q L cb sb pc Ls (.int u :: St) := by
  subst hq; exact Wk.pure (fun X hx hby r => XS.istoreN X hx rfl (hb hby hd) rfl (hl rfl).1 r) k
theorem Wk.istore {i : Nat} {u : Int32} (hd : decode bytes pc = .ok (.istore i, 2)) (hq : pc + 2 = q) (hl : LS1 i (.int u) Ls Ls') (k : Wk l Z a0 EL y bytes mx ret R Q L cb sb q Ls' (St)) : Wk l Z a0 EL y bytes mx ret R Q L cb sb pc Ls (.int u :: St) := by
  subst hq; exact Wk.pure (fun X hx hby r => XS.istore X hx rfl (hb hby hd) rfl (hl rfl).1 r) k
theorem Wk.astore_n {i : Fin 4} {u : Value} (hd : decode bytes pc = .ok (.astore_n i, 1)) (hq : pc + 1 = q) (hr : u.isRef = true) (hl : LS1 i.val u Ls Ls') (k : Wk l Z a0 EL y bytes mx ret R Q L cb sb q Ls' (St)) : Wk l Z a0 EL y bytes mx ret R Q L cb sb pc Ls (u :: St) := by
  subst hq; exact Wk.pure (fun X hx hby r => XS.astoreN X hx rfl (hb hby hd) rfl hr (hl (XT.cat1 hr)).1 r) k
theorem Wk.astore {i : Nat} {u : Value} (hd : decode bytes pc = .ok (.astore i, 2)) (hq : pc + 2 = q) (hr : u.isRef = true) (hl : LS1 i u Ls Ls') (k : Wk l Z a0 EL y bytes mx ret R Q L cb sb q Ls' (St)) : Wk l Z a0 EL y bytes mx ret R Q L cb sb pc Ls (u :: St) := by
  subst hq; exact Wk.pure (fun X hx hby r => XS.astore X hx rfl (hb hby hd) rfl hr (hl (XT.cat1 hr)).1 r) k
theorem Wk.lstore_n {i : Fin 4} {u : Int64} (hd : decode bytes pc = .ok (.lstore_n i, 1)) (hq : pc + 1 = q) (hl : LS2 i.val u Ls Ls') (k : Wk l Z a0 EL y bytes mx ret R Q L cb sb q Ls' (St)) : Wk l Z a0 EL y bytes mx ret R Q L cb sb pc Ls (.long u :: St) := by
  subst hq; exact Wk.pure (fun X hx hby r => XT.lstoreN X hx rfl (hb hby hd) rfl hl.store r) k
theorem Wk.lstore {i : Nat} {u : Int64} (hd : decode bytes pc = .ok (.lstore i, 2)) (hq : pc + 2 = q) (hl : LS2 i u Ls Ls') (k : Wk l Z a0 EL y bytes mx ret R Q L cb sb q Ls' (St)) : Wk l Z a0 EL y bytes mx ret R Q L cb sb pc Ls (.long u :: St) := by
  subst hq; exact Wk.pure (fun X hx hby r => XT.lstore X hx rfl (hb hby hd) rfl hl.store r) k
theorem Wk.iconst {i : Int} (u : Int32) (hd : decode bytes pc = .ok (.iconst i, 1)) (hq : pc + 1 = q) (hu : Int32.ofInt i = u) (k : Wk l Z a0 EL y bytes mx ret R Q L cb sb q Ls (.int u :: St)) : Wk l Z a0 EL y bytes mx ret R Q L cb sb pc Ls (St) := by
  subst hq; exact Wk.pure (fun X hx hby r => XS.iconst X hx rfl (hb hby hd) (by rw [hu]; exact r)) k
theorem Wk.bipush {i : Int} (u : Int32) (hd : decode bytes pc = .ok (.bipush i, 2)) (hq : pc + 2 = q) (hu : (Int8.ofInt i).toInt32 = u) (k : Wk l Z a0 EL y bytes mx ret R Q L cb sb q Ls (.int u :: St)) : Wk l Z a0 EL y bytes mx ret R Q L cb sb pc Ls (St) := by
  subst hq; exact Wk.pure (fun X hx hby r => XS.bipush X hx rfl (hb hby hd) (by rw [hu]; exact r)) k
theorem Wk.sipush {i : Int} (u : Int32) (hd : decode bytes pc = .ok (.sipush i, 3)) (hq : pc + 3 = q) (hu : (Int16.ofInt i).toInt32 = u) (k : Wk l Z a0 EL y bytes mx ret R Q L cb sb q Ls (.int u :: St)) : Wk l Z a0 EL y bytes mx ret R Q L cb sb pc Ls (St) := by
  subst hq; exact Wk.pure (fun X hx hby r => XS.sipush X hx rfl (hb hby hd) (by rw [hu]; exact r)) k
theorem Wk.lconst {i : Fin 2} (u : Int64) (hd : decode bytes pc = .ok (.lconst i, 1)) (hq : pc + 1 = q) (hu : Int64.ofNat i = u) (k : Wk l Z a0 EL y bytes mx ret R Q L cb sb q Ls (.long u :: St)) : Wk l Z a0 EL y bytes mx ret R Q L cb sb pc Ls (St) := by
  subst hq; exact Wk.pure (fun X hx hby r => XT.lconst X hx rfl (hb hby hd) (by rw [hu]; exact r)) k
theorem Wk.aconst_null  (hd : decode bytes pc = .ok (.aconst_null, 1)) (hq : pc + 1 = q) (k : Wk l Z a0 EL y bytes mx ret R Q L cb sb q Ls (.null :: St)) : Wk l Z a0 EL y bytes mx ret R Q L cb sb pc Ls (St) := by
  subst hq; exact Wk.pure (fun X hx hby r => XS.aconstNull X hx rfl (hb hby hd)  r) k
theorem Wk.iadd {u w : Int32} (hd : decode bytes pc = .ok (.iadd, 1)) (hq : pc + 1 = q) (k : Wk l Z a0 EL y bytes mx ret R Q L cb sb q Ls (.int (u + w) :: St)) : Wk l Z a0 EL y bytes mx ret R Q L cb sb pc Ls (.int w :: .int u :: St) := by
  subst hq; exact Wk.pure (fun X hx hby r => XS.iadd X hx rfl (hb hby hd) rfl r) k
theorem Wk.isub {u w : Int32} (hd : decode bytes pc = .ok (.isub, 1)) (hq : pc + 1 = q) (k : Wk l Z a0 EL y bytes mx ret R Q L cb sb q Ls (.int (u - w) :: St)) : Wk l Z a0 EL y bytes mx ret R Q L cb sb pc Ls (.int w :: .int u :: St) := by
  subst hq; exact Wk.pure (fun X hx hby r => XS.isub X hx rfl (hb hby hd) rfl r) k
theorem Wk.imul {u w : Int32} (hd : decode bytes pc = .ok (.imul, 1)) (hq : pc + 1 = q) (k : Wk l Z a0 EL y bytes mx ret R Q L cb sb q Ls (.int (u * w) :: St)) : Wk l Z a0 EL y bytes mx ret R Q L cb sb pc Ls (.int w :: .int u :: St) := by
  subst hq; exact Wk.pure (fun X hx hby r => XS.imul X hx rfl (hb hby hd) rfl r) k
theorem Wk.iand {u w : Int32} (hd : decode bytes pc = .ok (.iand, 1)) (hq : pc + 1 = q) (k : Wk l Z a0 EL y bytes mx ret R Q L cb sb q Ls (.int (u &&& w) :: St)) : Wk l Z a0 EL y bytes mx ret R Q L cb sb pc Ls (.int w :: .int u :: St) := by
  subst hq; exact Wk.pure (fun X hx hby r => XS.iand X hx rfl (hb hby hd) rfl r) k
theorem Wk.irem {u w : Int32} (hd : decode bytes pc = .ok (.irem, 1)) (hq : pc + 1 = q) (hy : w ≠ 0) (k : Wk l Z a0 EL y bytes mx ret R Q L cb sb q Ls (.int (u % w) :: St)) : Wk l Z a0 EL y bytes mx ret R Q L cb sb pc Ls (.int w :: .int u :: St) := by
  subst hq; exact Wk.pure (fun X hx hby r => XS.irem X hx rfl (hb hby hd) rfl hy (by rw [show u - u / w * w = u % w from irem_eq_mod u w]; exact r)) k
theorem Wk.idiv {u w : Int32} (hd : decode bytes pc = .ok (.idiv, 1)) (hq : pc + 1 = q) (hy : w ≠ 0) (k : Wk l Z a0 EL y bytes mx ret R Q L cb sb q Ls (.int (u / w) :: St)) : Wk l Z a0 EL y bytes mx ret R Q L cb sb pc Ls (.int w :: .int u :: St) := by
  subst hq; exact Wk.pure (fun X hx hby r => XS.idiv X hx rfl (hb hby hd) rfl hy r) k
theorem Wk.ineg {u : Int32} (hd : decode bytes pc = .ok (.ineg, 1)) (hq : pc + 1 = q) (k : Wk l Z a0 EL y bytes mx ret R Q L cb sb q Ls (.int (-u) :: St)) : Wk l Z a0 EL y bytes mx ret R Q L cb sb pc Ls (.int u :: St) := by
  subst hq; exact Wk.pure (fun X hx hby r => XS.ineg X hx rfl (hb hby hd) rfl r) k
theorem Wk.ior {u w : Int32} (hd : decode bytes pc = .ok (.ior, 1)) (hq : pc + 1 = q) (k : Wk l Z a0 EL y bytes mx ret R Q L cb sb q Ls (.int (u ||| w) :: St)) : Wk l Z a0 EL y bytes mx ret R Q L cb sb pc Ls (.int w :: .int u :: St) := by
  subst hq; exact Wk.pure (fun X hx hby r => XT.ior X hx rfl (hb hby hd) rfl r) k
theorem Wk.ixor {u w : Int32} (hd : decode bytes pc = .ok (.ixor, 1)) (hq : pc + 1 = q) (k : Wk l Z a0 EL y bytes mx ret R Q L cb sb q Ls (.int (u ^^^ w) :: St)) : Wk l Z a0 EL y bytes mx ret R Q L cb sb pc Ls (.int w :: .int u :: St) := by
  subst hq; exact Wk.pure (fun X hx hby r => XT.ixor X hx rfl (hb hby hd) rfl r) k
theorem Wk.ishl {u w : Int32} (hd : decode bytes pc = .ok (.ishl, 1)) (hq : pc + 1 = q) (k : Wk l Z a0 EL y bytes mx ret R Q L cb sb q Ls (.int (u <<< (w &&& 31)) :: St)) : Wk l Z a0 EL y bytes mx ret R Q L cb sb pc Ls (.int w :: .int u :: St) := by
  subst hq; exact Wk.pure (fun X hx hby r => XT.ishl X hx rfl (hb hby hd) rfl r) k
theorem Wk.ishr {u w : Int32} (hd : decode bytes pc = .ok (.ishr, 1)) (hq : pc + 1 = q) (k : Wk l Z a0 EL y bytes mx ret R Q L cb sb q Ls (.int (u >>> (w &&& 31)) :: St)) : Wk l Z a0 EL y bytes mx ret R Q L cb sb pc Ls (.int w :: .int u :: St) := by
  subst hq; exact Wk.pure (fun X hx hby r => XT.ishr X hx rfl (hb hby hd) rfl r) k
theorem Wk.iushr {u w : Int32} (hd : decode bytes pc = .ok (.iushr, 1)) (hq : pc + 1 = q) (k : Wk l Z a0 EL y bytes mx ret R Q L cb sb q Ls (.int (XT.ushr u w) :: St)) : Wk l Z a0 EL y bytes mx ret R Q L cb sb pc Ls (.int w :: .int u :: St) := by
  subst hq; exact Wk.pure (fun X hx hby r => XT.iushr X hx rfl (hb hby hd) rfl r) k
theorem Wk.ladd {u w : Int64} (hd : decode bytes pc = .ok (.ladd, 1)) (hq : pc + 1 = q) (k : Wk l Z a0 EL y bytes mx ret R Q L cb sb q Ls (.long (u + w) :: St)) : Wk l Z a0 EL y bytes mx ret R Q L cb sb pc Ls (.long w :: .long u :: St) := by
  subst hq; exact Wk.pure (fun X hx hby r => XT.ladd X hx rfl (hb hby hd) rfl r) k
theorem Wk.lsub {u w : Int64} (hd : decode bytes pc = .ok (.lsub, 1)) (hq : pc + 1 = q) (k : Wk l Z a0 EL y bytes mx ret R Q L cb sb q Ls (.long (u - w) :: St)) : Wk l Z a0 EL y bytes mx ret R Q L cb sb pc Ls (.long w :: .long u :: St) := by
  subst hq; exact Wk.pure (fun X hx hby r => XT.lsub X hx rfl (hb hby hd) rfl r) k
theorem Wk.lmul {u w : Int64} (hd : decode bytes pc = .ok (.lmul, 1)) (hq : pc + 1 = q) (k : Wk l Z a0 EL y bytes mx ret R Q L cb sb q Ls (.long (u * w) :: St)) : Wk l Z a0 EL y bytes mx ret R Q L cb sb pc Ls (.long w :: .long u :: St) := by
  subst hq; exact Wk.pure (fun X hx hby r => XT.lmul X hx rfl (hb hby hd) rfl r) k
theorem Wk.land {u w : Int64} (hd : decode bytes pc = .ok (.land, 1)) (hq : pc + 1 = q) (k : Wk l Z a0 EL y bytes mx ret R Q L cb sb q Ls (.long (u &&& w) :: St)) : Wk l Z a0 EL y bytes mx ret R Q L cb sb pc Ls (.long w :: .long u :: St) := by
  subst hq; exact Wk.pure (fun X hx hby r => XT.land X hx rfl (hb hby hd) rfl r) k
theorem Wk.ldiv {u w : Int64} (hd : decode bytes pc = .ok (.ldiv, 1)) (hq : pc + 1 = q) (hy : w ≠ 0) (k : Wk l Z a0 EL y bytes mx ret R Q L cb sb q Ls (.long (u / w) :: St)) : Wk l Z a0 EL y bytes mx ret R Q L cb sb pc Ls (.long w :: .long u :: St) := by
  subst hq; exact Wk.pure (fun X hx hby r => XT.ldiv X hx rfl (hb hby hd) rfl hy r) k
theorem Wk.lrem {u w : Int64} (hd : decode bytes pc = .ok (.lrem, 1)) (hq : pc + 1 = q) (hy : w ≠ 0) (k : Wk l Z a0 EL y bytes mx ret R Q L cb sb q Ls (.long (u % w) :: St)) : Wk l Z a0 EL y bytes mx ret R Q L cb sb pc Ls (.long w :: .long u :: St) := by
  subst hq; exact Wk.pure (fun X hx hby r => XT.lrem X hx rfl (hb hby hd) rfl hy (by rw [show u - u / w * w = u % w from lrem_mod u w]; exact r)) k
theorem Wk.i2l {u : Int32} (hd : decode bytes pc = .ok (.i2l, 1)) (hq : pc + 1 = q) (k : Wk l Z a0 EL y bytes mx ret R Q L cb sb q Ls (.long u.toInt64 :: St)) : Wk l Z a0 EL y bytes mx ret R Q L cb sb pc Ls (.int u :: St) := by
  subst hq; exact Wk.pure (fun X hx hby r => XT.i2l X hx rfl (hb hby hd) rfl r) k
theorem Wk.l2i {u : Int64} (hd : decode bytes pc = .ok (.l2i, 1)) (hq : pc + 1 = q) (k : Wk l Z a0 EL y bytes mx ret R Q L cb sb q Ls (.int u.toInt32 :: St)) : Wk l Z a0 EL y bytes mx ret R Q L cb sb pc Ls (.long u :: St) := by
  subst hq; exact Wk.pure (fun X hx hby r => XT.l2i X hx rfl (hb hby hd) rfl r) k
theorem Wk.i2b {u : Int32} (hd : decode bytes pc = .ok (.i2b, 1)) (hq : pc + 1 = q) (k : Wk l Z a0 EL y bytes mx ret R Q L cb sb q Ls (.int u.toInt8.toInt32 :: St)) : Wk l Z a0 EL y bytes mx ret R Q L cb sb pc Ls (.int u :: St) := by
  subst hq; exact Wk.pure (fun X hx hby r => XT.i2b X hx rfl (hb hby hd) rfl r) k
theorem Wk.i2c {u : Int32} (hd : decode bytes pc = .ok (.i2c, 1)) (hq : pc + 1 = q) (k : Wk l Z a0 EL y bytes mx ret R Q L cb sb q Ls (.int u.toUInt32.toUInt16.toUInt32.toInt32 :: St)) : Wk l Z a0 EL y bytes mx ret R Q L cb sb pc Ls (.int u :: St) := by
  subst hq; exact Wk.pure (fun X hx hby r => XT.i2c X hx rfl (hb hby hd) rfl r) k
theorem Wk.lcmp {u w : Int64} (hd : decode bytes pc = .ok (.lcmp, 1)) (hq : pc + 1 = q) (k : Wk l Z a0 EL y bytes mx ret R Q L cb sb q Ls (.int (XT.cmpL u w) :: St)) : Wk l Z a0 EL y bytes mx ret R Q L cb sb pc Ls (.long w :: .long u :: St) := by
  subst hq; exact Wk.pure (fun X hx hby r => XT.lcmp X hx rfl (hb hby hd) rfl r) k
theorem Wk.dup {u : Value} (hd : decode bytes pc = .ok (.dup, 1)) (hq : pc + 1 = q) (hc : u.category = 1) (k : Wk l Z a0 EL y bytes mx ret R Q L cb sb q Ls (u :: u :: St)) : Wk l Z a0 EL y bytes mx ret R Q L cb sb pc Ls (u :: St) := by
  subst hq; exact Wk.pure (fun X hx hby r => XS.dup X hx rfl (hb hby hd) rfl hc r) k
theorem Wk.pop {u : Value} (hd : decode bytes pc = .ok (.pop, 1)) (hq : pc + 1 = q) (hc : u.category = 1) (k : Wk l Z a0 EL y bytes mx ret R Q L cb sb q Ls (St)) : Wk l Z a0 EL y bytes mx ret R Q L cb sb pc Ls (u :: St) := by
  subst hq; exact Wk.pure (fun X hx hby r => XT.pop X hx rfl (hb hby hd) rfl hc r) k
theorem Wk.dup_x1 {u w : Value} (hd : decode bytes pc = .ok (.dup_x1, 1)) (hq : pc + 1 = q) (hc : u.category = 1) (hc' : w.category = 1) (k : Wk l Z a0 EL y bytes mx ret R Q L cb sb q Ls (u :: w :: u :: St)) : Wk l Z a0 EL y bytes mx ret R Q L cb sb pc Ls (u :: w :: St) := by
  subst hq; exact Wk.pure (fun X hx hby r => XT.dupX1 X hx rfl (hb hby hd) rfl hc hc' r) k
theorem Wk.iinc {i : Nat} {cst : Int} {u : Int32} (w : Int32) (hd : decode bytes pc = .ok (.iinc i cst, 3)) (hq : pc + 3 = q) (hu : Int32.ofInt cst = w) (hl : Ls[i]? = some (.val (.int u))) (hl' : LS1 i (.int (u + w)) Ls Ls') (k : Wk l Z a0 EL y bytes mx ret R Q L cb sb q Ls' (St)) : Wk l Z a0 EL y bytes mx ret R Q L cb sb pc Ls (St) := by
  subst hq; exact Wk.pure (fun X hx hby r => XS.iinc X hx rfl (hb hby hd) (getL hl) (by rw [hu]; exact (hl' rfl).1) r) k
theorem Wk.goto  {o : Int} (hd : decode bytes pc = .ok (.goto o, 3)) (ho : 0 ≤ (pc : Int) + o) (hq : ((pc : Int) + o).toNat = q) (k : Wk l Z a0 EL y bytes mx ret R Q L cb sb q Ls (St)) : Wk l Z a0 EL y bytes mx ret R Q L cb sb pc Ls (St) :=
  Wk.pure (fun X hx hby r => XS.goto X hx rfl rfl (hb hby hd)  ho hq r) k
theorem Wk.if_t {cd : ClassFile.Cond} {u : Int32} {o : Int} (hd : decode bytes pc = .ok (.ifCond cd o, 3)) (ho : 0 ≤ (pc : Int) + o) (hq : ((pc : Int) + o).toNat = q) (hc : ifCond.holds cd u = true) (k : Wk l Z a0 EL y bytes mx ret R Q L cb sb q Ls (St)) : Wk l Z a0 EL y bytes mx ret R Q L cb sb pc Ls (.int u :: St) :=
  Wk.pure (fun X hx hby r => XS.ifYes X hx rfl rfl (hb hby hd) rfl hc ho hq r) k
theorem Wk.if_f {cd : ClassFile.Cond} {o : Int} {u : Int32} (hd : decode bytes pc = .ok (.ifCond cd o, 3)) (hq : pc + 3 = q) (hc : ifCond.holds cd u = false) (k : Wk l Z a0 EL y bytes mx ret R Q L cb sb q Ls (St)) : Wk l Z a0 EL y bytes mx ret R Q L cb sb pc Ls (.int u :: St) := by
  subst hq; exact Wk.pure (fun X hx hby r => XS.ifNo X hx rfl (hb hby hd) rfl hc r) k
theorem Wk.icmp_t {cd : ClassFile.Cond} {u w : Int32} {o : Int} (hd : decode bytes pc = .ok (.if_icmp cd o, 3)) (ho : 0 ≤ (pc : Int) + o) (hq : ((pc : Int) + o).toNat = q) (hc : if_icmp.holds cd u w = true) (k : Wk l Z a0 EL y bytes mx ret R Q L cb sb q Ls (St)) : Wk l Z a0 EL y bytes mx ret R Q L cb sb pc Ls (.int w :: .int u :: St) :=
  Wk.pure (fun X hx hby r => XS.icmpYes X hx rfl rfl (hb hby hd) rfl hc ho hq r) k
theorem Wk.icmp_f {cd : ClassFile.Cond} {o : Int} {u w : Int32} (hd : decode bytes pc = .ok (.if_icmp cd o, 3)) (hq : pc + 3 = q) (hc : if_icmp.holds cd u w = false) (k : Wk l Z a0 EL y bytes mx ret R Q L cb sb q Ls (St)) : Wk l Z a0 EL y bytes mx ret R Q L cb sb pc Ls (.int w :: .int u :: St) := by
  subst hq; exact Wk.pure (fun X hx hby r => XS.icmpNo X hx rfl (hb hby hd) rfl hc r) k
theorem Wk.null_t  {o : Int} (hd : decode bytes pc = .ok (.ifnull o, 3)) (ho : 0 ≤ (pc : Int) + o) (hq : ((pc : Int) + o).toNat = q) (k : Wk l Z a0 EL y bytes mx ret R Q L cb sb q Ls (St)) : Wk l Z a0 EL y bytes mx ret R Q L cb sb pc Ls (.null :: St) :=
  Wk.pure (fun X hx hby r => XS.ifnullYes X hx rfl rfl (hb hby hd) rfl ho hq r) k
theorem Wk.null_f {o : Int} {u : Addr} (hd : decode bytes pc = .ok (.ifnull o, 3)) (hq : pc + 3 = q) (k : Wk l Z a0 EL y bytes mx ret R Q L cb sb q Ls (St)) : Wk l Z a0 EL y bytes mx ret R Q L cb sb pc Ls (.ref u :: St) := by
  subst hq; exact Wk.pure (fun X hx hby r => XS.ifnullNo X hx rfl (hb hby hd) rfl r) k
theorem Wk.nonnull_t {u : Addr} {o : Int} (hd : decode bytes pc = .ok (.ifnonnull o, 3)) (ho : 0 ≤ (pc : Int) + o) (hq : ((pc : Int) + o).toNat = q) (k : Wk l Z a0 EL y bytes mx ret R Q L cb sb q Ls (St)) : Wk l Z a0 EL y bytes mx ret R Q L cb sb pc Ls (.ref u :: St) :=
  Wk.pure (fun X hx hby r => XT.ifnonnullYes X hx rfl rfl (hb hby hd) rfl ho hq r) k
theorem Wk.nonnull_f {o : Int} (hd : decode bytes pc = .ok (.ifnonnull o, 3)) (hq : pc + 3 = q) (k : Wk l Z a0 EL y bytes mx ret R Q L cb sb q Ls (St)) : Wk l Z a0 EL y bytes mx ret R Q L cb sb pc Ls (.null :: St) := by
  subst hq; exact Wk.pure (fun X hx hby r => XT.ifnonnullNo X hx rfl (hb hby hd) rfl r) k
theorem Wk.acmp_t {cd : ClassFile.ACond} {u w : Value} {o : Int} (hd : decode bytes pc = .ok (.if_acmp cd o, 3)) (ho : 0 ≤ (pc : Int) + o) (hq : ((pc : Int) + o).toNat = q) (h1 : u.isRef = true) (h2 : w.isRef = true) (hc : XT.acmp cd u w = true) (k : Wk l Z a0 EL y bytes mx ret R Q L cb sb q Ls (St)) : Wk l Z a0 EL y bytes mx ret R Q L cb sb pc Ls (w :: u :: St) :=
  Wk.pure (fun X hx hby r => XT.acmpYes X hx rfl rfl (hb hby hd) rfl h1 h2 hc ho hq r) k
theorem Wk.acmp_f {cd : ClassFile.ACond} {o : Int} {u w : Value} (hd : decode bytes pc = .ok (.if_acmp cd o, 3)) (hq : pc + 3 = q) (h1 : u.isRef = true) (h2 : w.isRef = true) (hc : XT.acmp cd u w = false) (k : Wk l Z a0 EL y bytes mx ret R Q L cb sb q Ls (St)) : Wk l Z a0 EL y bytes mx ret R Q L cb sb pc Ls (w :: u :: St) := by
  subst hq; exact Wk.pure (fun X hx hby r => XT.acmpNo X hx rfl (hb hby hd) rfl h1 h2 hc r) k

/-- a step that reads the tables or the heap and leaves the heap -/
theorem Wk.same {Ls' : List Slot} {St' : List Value} (st : ∀ {p : Program} {e : Env} {s : State} {m : MethodId} {args : Array Value} {below : List Frame} {meth : Method} {c : Code} {T : State} {vm0 : Vm} {locs : List Loc} {cells slots : Nat}, p.tables.exec = Jvm.exec → c.code = bytes → c.maxLocals = mx → vm0.findClass y.cls = some m.cls → Z.Warmed39 vm0 → Inv Z EL vm0 T.heap L →
      Stand p l e R (s.setVm vm0) m args below meth c T locs cells slots → ∃ T', Stand p l e R (s.setVm vm0) m args below meth c T' locs cells slots ∧ T'.heap = T.heap ∧ ∀ target, Steps p.tables e below (T'.setTop (mkF m q ⟨Ls'⟩ St')) target → Steps p.tables e below (T.setTop (mkF m pc ⟨Ls⟩ St)) target)
    (k : Wk l Z a0 EL y bytes mx ret R Q L cb sb q Ls' St') : Wk l Z a0 EL y bytes mx ret R Q L cb sb pc Ls St := by
  intro p e s m args below meth c T vm0 k0 locs cells slots hx hby hmx hret hlk hnm hown X hS hk hZ hE hI hF hc hs
  obtain ⟨T', X', e', st'⟩ := st hx hby hmx hown hZ hI X
  obtain ⟨fin, v, Lc, L', h1, r⟩ := k p e s m args below meth c T' vm0 k0 locs cells slots hx hby hmx hret hlk hnm hown X' hS (by rw [e']; exact hk) hZ hE (by rw [e']; exact hI) hF hc hs
  exact ⟨fin, v, Lc, L', st' _ h1, r⟩
theorem Wk.getfield {i : Nat} (j : Nat) {a : Addr} {fl : Bool} {C R0 O n d : String} {lay : Lay} {vs : List Value} {v : Value} (hd : decode bytes pc = .ok (.getfield i, 3)) (hq : pc + 3 = q) (w : (Jvm.Cond.fieldLink y.cls i R0 n d).before a0 Z = true) (via : Via Z R0 O n d)
    (hm : (a, fl, OB Z C lay vs) ∈ L) (hj : lay[j]? = some (O, n, d)) (hv : vs[j]? = some v) (k : Wk l Z a0 EL y bytes mx ret R Q L cb sb q Ls (v :: St)) : Wk l Z a0 EL y bytes mx ret R Q L cb sb pc Ls (.ref a :: St) := by
  subst hq
  refine Wk.same (fun {p e s m args below meth c T vm0 locs cells slots} hx hby hmx hown hZ hI X => ?_) k
  obtain ⟨cl, e1, e2⟩ := hI.at_ hm
  exact getF X hx hZ hown (host := "") (Or.inl w) via rfl (e2.fld e1 hj hv) (g := mkF m pc ⟨Ls⟩ (.ref a :: St)) rfl rfl (hb hby hd)
theorem Wk.getstatic {i : Nat} {R0 O n d : String} {v : Value} (hd : decode bytes pc = .ok (.getstatic i, 3)) (hq : pc + 3 = q) (w : (Jvm.Cond.fieldLink y.cls i R0 n d).before a0 Z = true) (via : Via Z R0 O n d) (F : Sta Z Z.heap O n d v)
    (k : Wk l Z a0 EL y bytes mx ret R Q L cb sb q Ls (v :: St)) : Wk l Z a0 EL y bytes mx ret R Q L cb sb pc Ls St := by
  subst hq
  refine Wk.same (fun {p e s m args below meth c T vm0 locs cells slots} hx hby hmx hown hZ hI X => ?_) k
  exact getS (host := "") X hx hZ hown w via rfl (F.ext hI.1) (g := mkF m pc ⟨Ls⟩ St) rfl (hb hby hd)
theorem Wk.checkcast {i : Nat} {a : Addr} {fl : Bool} {C K : String} {lay : Lay} {vs : List Value} (hd : decode bytes pc = .ok (.checkcast i, 3)) (hq : pc + 3 = q) (w : (Jvm.Cond.classLink y.cls i K).before a0 Z = true) (hm : (a, fl, OB Z C lay vs) ∈ L) (wc : (Jvm.Cond.castable C K).before a0 Z = true)
    (k : Wk l Z a0 EL y bytes mx ret R Q L cb sb q Ls (.ref a :: St)) : Wk l Z a0 EL y bytes mx ret R Q L cb sb pc Ls (.ref a :: St) := by
  subst hq
  refine Wk.same (fun {p e s m args below meth c T vm0 locs cells slots} hx hby hmx hown hZ hI X => ?_) k
  obtain ⟨cl, e1, e2⟩ := hI.at_ hm
  exact castY X hx hZ hown w rfl (Ins.of_exa (e2.exa e1) wc) (g := mkF m pc ⟨Ls⟩ (.ref a :: St)) rfl rfl (hb hby hd)
theorem Wk.instanceof_t {i : Nat} {a : Addr} {fl : Bool} {C K : String} {lay : Lay} {vs : List Value} (hd : decode bytes pc = .ok (.instanceof i, 3)) (hq : pc + 3 = q) (w : (Jvm.Cond.classLink y.cls i K).before a0 Z = true) (hm : (a, fl, OB Z C lay vs) ∈ L) (wc : (Jvm.Cond.castable C K).before a0 Z = true)
    (k : Wk l Z a0 EL y bytes mx ret R Q L cb sb q Ls (.int 1 :: St)) : Wk l Z a0 EL y bytes mx ret R Q L cb sb pc Ls (.ref a :: St) := by
  subst hq
  refine Wk.same (fun {p e s m args below meth c T vm0 locs cells slots} hx hby hmx hown hZ hI X => ?_) k
  obtain ⟨cl, e1, e2⟩ := hI.at_ hm
  exact instY X hx hZ hown w rfl (Ins.of_exa (e2.exa e1) wc) (g := mkF m pc ⟨Ls⟩ (.ref a :: St)) rfl rfl (hb hby hd)
theorem Wk.instanceof_f {i : Nat} {a : Addr} {fl : Bool} {C K : String} {lay : Lay} {vs : List Value} (hd : decode bytes pc = .ok (.instanceof i, 3)) (hq : pc + 3 = q) (w : (Jvm.Cond.classLink y.cls i K).before a0 Z = true) (hm : (a, fl, OB Z C lay vs) ∈ L) (F : ∃ c t, Z.vm.findClass C = some c ∧ Z.vm.findClass K = some t ∧ Z.vm.assignable c t = false)
    (k : Wk l Z a0 EL y bytes mx ret R Q L cb sb q Ls (.int 0 :: St)) : Wk l Z a0 EL y bytes mx ret R Q L cb sb pc Ls (.ref a :: St) := by
  subst hq
  refine Wk.same (fun {p e s m args below meth c T vm0 locs cells slots} hx hby hmx hown hZ hI X => ?_) k
  obtain ⟨cl, e1, e2⟩ := hI.at_ hm
  exact instNo X hx hZ hown w rfl (e2.exa e1) F (g := mkF m pc ⟨Ls⟩ (.ref a :: St)) rfl rfl (hb hby hd)
theorem Wk.ldc_int {i : Nat} {u : Int32} (hd : decode bytes pc = .ok (.ldc i, 2)) (hq : pc + 2 = q) (w : (Jvm.Cond.constant y.cls i u).before a0 Z = true) (k : Wk l Z a0 EL y bytes mx ret R Q L cb sb q Ls (.int u :: St)) : Wk l Z a0 EL y bytes mx ret R Q L cb sb pc Ls St := by
  subst hq
  refine Wk.same (fun {p e s m args below meth c T vm0 locs cells slots} hx hby hmx hown hZ hI X => ?_) k
  exact ⟨T, X, rfl, fun target r => ldcI X hx hown (mv (s := s.setVm vm0) hZ w) (g := mkF m pc ⟨Ls⟩ St) rfl (hb hby hd) r⟩
theorem Wk.ldc2_w {i : Nat} {u : Int64} (hd : decode bytes pc = .ok (.ldc2_w i, 3)) (hq : pc + 3 = q) (w : (Jvm.Cond.constantLong y.cls i u).before a0 Z = true) (k : Wk l Z a0 EL y bytes mx ret R Q L cb sb q Ls (.long u :: St)) : Wk l Z a0 EL y bytes mx ret R Q L cb sb pc Ls St := by
  subst hq
  refine Wk.same (fun {p e s m args below meth c T vm0 locs cells slots} hx hby hmx hown hZ hI X => ?_) k
  exact ⟨T, X, rfl, fun target r => ldc2J X hx hown (mv (s := s.setVm vm0) hZ w) (g := mkF m pc ⟨Ls⟩ St) rfl (hb hby hd) r⟩
theorem Wk.objinit {i : Nat} {a : Addr} (W : Nat) (hd : decode bytes pc = .ok (.invokespecial i, 3)) (hq : pc + 3 = q) (w1 : (Jvm.Cond.methodLink y.cls i Lib.objectInit).before a0 Z = true) (w2 : (Jvm.Cond.instanceMethod Lib.objectInit).before a0 Z = true) (w3 : (Jvm.Cond.code Lib.objectInit ⟨#[0xb1]⟩ 1 none).before a0 Z = true)
    (hz : Ls.length = mx) (hf : 1 ≤ R.frames) (hW : (St.map fun v => v.category).sum = W) (hl : W + 12 ≤ R.locals) (k : Wk l Z a0 EL y bytes mx ret R Q L cb sb q Ls St) : Wk l Z a0 EL y bytes mx ret R Q L cb sb pc Ls (.ref a :: St) := by
  subst hq
  refine Wk.same (fun {p e s m args below meth c T vm0 locs cells slots} hx hby hmx hown hZ hI X => ?_) k
  exact initO X hx hZ hown w1 w2 w3 rfl (g := mkF m pc ⟨Ls⟩ (.ref a :: St)) rfl (by rw [hmx]; simpa using hz) rfl (hb hby hd) hf (W := W) (by show 2 * 0 + _ ≤ _; rw [hW]; omega) hl
theorem Wk.arraylength {a : Addr} {fl : Bool} {ty : FieldType} {vs : List Value} {u : Int32} (hd : decode bytes pc = .ok (.arraylength, 1)) (hq : pc + 1 = q) (hm : (a, fl, AR Z ty vs) ∈ L) (hu : vs.length.toInt32 = u) (k : Wk l Z a0 EL y bytes mx ret R Q L cb sb q Ls (.int u :: St)) : Wk l Z a0 EL y bytes mx ret R Q L cb sb pc Ls (.ref a :: St) := by
  subst hq
  refine Wk.same (fun {p e s m args below meth c T vm0 locs cells slots} hx hby hmx hown hZ hI X => ?_) k
  obtain ⟨cl, e1, e2⟩ := hI.at_ hm
  exact ⟨T, X, rfl, fun target r => X.arraylength hx e1 (State.isArrayOf_alike (T := s.setVm vm0) hZ.alike e2.1) (g := mkF m pc ⟨Ls⟩ (.ref a :: St)) rfl rfl (hb hby hd) target (by rw [e2.size, hu]; exact r)⟩
theorem inside {Z : State} {ty : FieldType} {vs : List Value} {c : Cell} {j : Int32} {i : Nat} {v : Value} (F : AR Z ty vs c) (hj : ¬ j < 0) (hi : j.toNatClampNeg = i) (hv : vs[i]? = some v) : ¬ (j < 0 ∨ c.slots.size ≤ j.toNatClampNeg) := by
  have := (List.getElem?_eq_some_iff.mp hv).1
  rw [F.size, hi]
  rintro (q | q)
  · exact hj q
  · omega
theorem Wk.caload {a : Addr} {fl : Bool} {vs : List Value} {j : Int32} (i : Nat) {v : Value} (hd : decode bytes pc = .ok (.caload, 1)) (hq : pc + 1 = q) (hm : (a, fl, AR Z .char vs) ∈ L) (hj : ¬ j < 0) (hi : j.toNatClampNeg = i) (hv : vs[i]? = some v) (k : Wk l Z a0 EL y bytes mx ret R Q L cb sb q Ls (v :: St)) : Wk l Z a0 EL y bytes mx ret R Q L cb sb pc Ls (.int j :: .ref a :: St) := by
  subst hq
  refine Wk.same (fun {p e s m args below meth c T vm0 locs cells slots} hx hby hmx hown hZ hI X => ?_) k
  obtain ⟨cl, e1, e2⟩ := hI.at_ hm
  exact ⟨T, X, rfl, fun target r => X.caload hx e1 (State.isArrayOf_alike (T := s.setVm vm0) hZ.alike e2.1) e2.2.1 (inside e2 hj hi hv) (by rw [hi]; exact e2.get hv) (g := mkF m pc ⟨Ls⟩ (.int j :: .ref a :: St)) rfl rfl (hb hby hd) target r⟩
theorem Wk.baload {a : Addr} {fl : Bool} {vs : List Value} {j : Int32} (i : Nat) {v : Value} (hd : decode bytes pc = .ok (.baload, 1)) (hq : pc + 1 = q) (hm : (a, fl, AR Z .byte vs) ∈ L) (hj : ¬ j < 0) (hi : j.toNatClampNeg = i) (hv : vs[i]? = some v) (k : Wk l Z a0 EL y bytes mx ret R Q L cb sb q Ls (v :: St)) : Wk l Z a0 EL y bytes mx ret R Q L cb sb pc Ls (.int j :: .ref a :: St) := by
  subst hq
  refine Wk.same (fun {p e s m args below meth c T vm0 locs cells slots} hx hby hmx hown hZ hI X => ?_) k
  obtain ⟨cl, e1, e2⟩ := hI.at_ hm
  exact ⟨T, X, rfl, fun target r => X.baloadBytes hx e1 (State.isArrayOf_alike (T := s.setVm vm0) hZ.alike e2.1) e2.2.1 (inside e2 hj hi hv) (by rw [hi]; exact e2.get hv) (g := mkF m pc ⟨Ls⟩ (.int j :: .ref a :: St)) rfl rfl (hb hby hd) target r⟩
theorem Wk.aaload {a : Addr} {fl : Bool} {C : String} {vs : List Value} {j : Int32} (i : Nat) {v : Value} (hd : decode bytes pc = .ok (.aaload, 1)) (hq : pc + 1 = q) (hm : (a, fl, RA Z C vs) ∈ L) (hj : ¬ j < 0) (hi : j.toNatClampNeg = i) (hv : vs[i]? = some v) (k : Wk l Z a0 EL y bytes mx ret R Q L cb sb q Ls (v :: St)) : Wk l Z a0 EL y bytes mx ret R Q L cb sb pc Ls (.int j :: .ref a :: St) := by
  subst hq
  refine Wk.same (fun {p e s m args below meth c T vm0 locs cells slots} hx hby hmx hown hZ hI X => ?_) k
  obtain ⟨cl, e1, e2⟩ := hI.at_ hm
  exact ⟨T, X, rfl, fun target r => X.aaload hx e1 (State.isArrayOf_alike (T := s.setVm vm0) hZ.alike e2.1.1) rfl e2.1.2.1 (inside e2.1 hj hi hv) (by rw [hi]; exact e2.1.get hv) (g := mkF m pc ⟨Ls⟩ (.int j :: .ref a :: St)) rfl rfl (hb hby hd) target r⟩
/-- a list with one place written over -/
def VS (j : Nat) (v : Value) (vs vs' : List Value) : Prop := vs.set j v = vs' ∧ j < vs.length
theorem VS.here {v o : Value} {vs : List Value} : VS 0 v (o :: vs) (v :: vs) := ⟨rfl, Nat.succ_pos _⟩
theorem VS.there {j : Nat} {v o : Value} {vs vs' : List Value} (h : VS j v vs vs') : VS (j + 1) v (o :: vs) (o :: vs') := ⟨by rw [List.set_cons_succ, h.1], Nat.succ_lt_succ h.2⟩
theorem VS.of {j : Nat} {v : Value} {vs : List Value} (h : j < vs.length) : VS j v vs (vs.set j v) := ⟨rfl, h⟩
/-- a step that writes a place of the entry a -/
theorem Wk.write {a : Addr} {P P' : Cell → Prop} {St' : List Value} (hm : Ex L (a, true, P) L0)
    (st : ∀ {p : Program} {e : Env} {s : State} {m : MethodId} {args : Array Value} {below : List Frame} {meth : Method} {c : Code} {T : State} {vm0 : Vm} {locs : List Loc} {cells slots : Nat}, p.tables.exec = Jvm.exec → c.code = bytes → c.maxLocals = mx → meth.name = y.name → vm0.findClass y.cls = some m.cls → Z.Warmed39 vm0 → Inv Z EL vm0 T.heap ((a, true, P) :: L0) →
      Stand p l e R (s.setVm vm0) m args below meth c T locs cells slots → ∃ T' h' sl v, Stand p l e R (s.setVm vm0) m args below meth c T' (locs ++ [⟨a, sl⟩]) cells slots ∧ T'.heap = h' ∧ Wr T.heap h' a sl v ∧ (∀ cl, T.heap[a]? = some cl → P cl → P' (cl.setSlot sl v)) ∧ ∀ target, Steps p.tables e below (T'.setTop (mkF m q ⟨Ls⟩ St')) target → Steps p.tables e below (T.setTop (mkF m pc ⟨Ls⟩ St)) target)
    (k : Wk l Z a0 EL y bytes mx ret R Q ((a, true, P') :: L0) cb sb q Ls St') : Wk l Z a0 EL y bytes mx ret R Q L cb sb pc Ls St := by
  refine Wk.pull hm ?_
  intro p e s m args below meth c T vm0 k0 locs cells slots hx hby hmx hret hlk hnm hown X hS hk hZ hE hI hF hc hs
  obtain ⟨T', h', sl, v, X', rfl, W, hP, st'⟩ := st hx hby hmx hnm hown hZ hI X
  obtain ⟨fin, v, Lc, L', h1, r⟩ := k p e s m args below meth c T' vm0 k0 _ cells slots hx hby hmx hret hlk hnm hown X' hS (by rw [W.size]; exact hk) hZ hE (hI.wr W hP) (Fr.snoc X' hF (hI.2.2.2.1 _ (List.mem_cons_self ..) rfl).1) hc hs
  exact ⟨fin, v, Lc, L', st' _ h1, r⟩
theorem Wk.putfield {i : Nat} (j : Nat) {kk : Nat} {a : Addr} {C R0 O n d : String} {lay : Lay} {vs vs' : List Value} {v : Value} {ty : FieldType} (hd : decode bytes pc = .ok (.putfield i, 3)) (hq : pc + 3 = q) (w : (Jvm.Cond.fieldLink y.cls i R0 n d).before a0 Z = true) (via : Via Z R0 O n d)
    (K : LayOk Z a0 C lay) (wi : (Jvm.Cond.instantiable C kk).before a0 Z = true) (hl : (Jvm.Cond.lays C O n d).before a0 Z = true ∨ ((Jvm.Cond.laysFinal C O n d).before a0 Z = true ∧ y.cls = O ∧ y.name = "<init>")) (hj : lay[j]? = some (O, n, d)) (hty : parseFieldDescriptor d = some ty) (hm : Ex L (a, true, OB Z C lay vs) L0) (hvs : VS j v vs vs') (hn : narrow ty v = v) (hf : fits ty v = true)
    (k : Wk l Z a0 EL y bytes mx ret R Q ((a, true, OB Z C lay vs') :: L0) cb sb q Ls St) : Wk l Z a0 EL y bytes mx ret R Q L cb sb pc Ls (v :: .ref a :: St) := by
  subst hq
  obtain ⟨rfl, hlt⟩ := hvs
  have hv : vs[j]? = some vs[j] := List.getElem?_eq_getElem hlt
  refine Wk.write hm (fun {p e s m args below meth c T vm0 locs cells slots} hx hby hmx hnm hown hZ hI X => ?_) k
  obtain ⟨cl, e1, e2⟩ := hI.at_ (List.mem_cons_self ..)
  obtain ⟨T', h', X', eh, W, st⟩ := putF X hx hZ hown (host := "") (Or.inl w) via rfl (e2.fld e1 hj hv) (e2.exa e1) (hl.imp id fun h => ⟨h.1, h.2.1, hnm.trans h.2.2⟩) wi hty hn hf (g := mkF m pc ⟨Ls⟩ (v :: .ref a :: St)) rfl rfl (hb hby hd)
  exact ⟨T', h', _, v, X', eh, W, fun cl' e3 e4 => OB.set K e4 hj hv v, st⟩
theorem Wk.castore {a : Addr} {vs vs' : List Value} {j u u' : Int32} (i : Nat) (hd : decode bytes pc = .ok (.castore, 1)) (hq : pc + 1 = q) (hm : Ex L (a, true, AR Z .char vs) L0) (hj : ¬ j < 0) (hi : j.toNatClampNeg = i) (hu : nar .char u = u') (hvs : VS i (.int u') vs vs')
    (k : Wk l Z a0 EL y bytes mx ret R Q ((a, true, AR Z .char vs') :: L0) cb sb q Ls St) : Wk l Z a0 EL y bytes mx ret R Q L cb sb pc Ls (.int u :: .int j :: .ref a :: St) := by
  subst hq hu
  obtain ⟨rfl, hlt⟩ := hvs
  refine Wk.write hm (fun {p e s m args below meth c T vm0 locs cells slots} hx hby hmx hnm hown hZ hI X => ?_) k
  obtain ⟨cl, e1, e2⟩ := hI.at_ (List.mem_cons_self ..)
  obtain ⟨T', h', X', eh, W, st⟩ := stC X hx hZ rfl (e2.arr e1) (inside e2 hj hi (List.getElem?_eq_getElem hlt)) (g := mkF m pc ⟨Ls⟩ (.int u :: .int j :: .ref a :: St)) rfl rfl (hb hby hd)
  exact ⟨T', h', _, _, X', eh, W, fun cl' e3 e4 => by rw [hi]; exact e4.set _ _, st⟩
theorem Wk.bastore {a : Addr} {vs vs' : List Value} {j u u' : Int32} (i : Nat) (hd : decode bytes pc = .ok (.bastore, 1)) (hq : pc + 1 = q) (hm : Ex L (a, true, AR Z .byte vs) L0) (hj : ¬ j < 0) (hi : j.toNatClampNeg = i) (hu : nar .byte u = u') (hvs : VS i (.int u') vs vs')
    (k : Wk l Z a0 EL y bytes mx ret R Q ((a, true, AR Z .byte vs') :: L0) cb sb q Ls St) : Wk l Z a0 EL y bytes mx ret R Q L cb sb pc Ls (.int u :: .int j :: .ref a :: St) := by
  subst hq hu
  obtain ⟨rfl, hlt⟩ := hvs
  refine Wk.write hm (fun {p e s m args below meth c T vm0 locs cells slots} hx hby hmx hnm hown hZ hI X => ?_) k
  obtain ⟨cl, e1, e2⟩ := hI.at_ (List.mem_cons_self ..)
  obtain ⟨T', h', X', eh, W, st⟩ := stB X hx hZ rfl (e2.arr e1) (inside e2 hj hi (List.getElem?_eq_getElem hlt)) (g := mkF m pc ⟨Ls⟩ (.int u :: .int j :: .ref a :: St)) rfl rfl (hb hby hd)
  exact ⟨T', h', _, _, X', eh, W, fun cl' e3 e4 => by rw [hi]; exact e4.set _ _, st⟩
theorem Wk.aastore {a b : Addr} {fl : Bool} {C D : String} {lay : Lay} {ws : List Value} {vs vs' : List Value} {j : Int32} (i : Nat) (hd : decode bytes pc = .ok (.aastore, 1)) (hq : pc + 1 = q) (hm : Ex L (a, true, RA Z C vs) L0) (ho : (b, fl, OB Z D lay ws) ∈ L0) (wc : (Jvm.Cond.castable D C).before a0 Z = true) (hj : ¬ j < 0) (hi : j.toNatClampNeg = i) (hvs : VS i (.ref b) vs vs')
    (k : Wk l Z a0 EL y bytes mx ret R Q ((a, true, RA Z C vs') :: L0) cb sb q Ls St) : Wk l Z a0 EL y bytes mx ret R Q L cb sb pc Ls (.ref b :: .int j :: .ref a :: St) := by
  subst hq
  obtain ⟨rfl, hlt⟩ := hvs
  refine Wk.write hm (fun {p e s m args below meth c T vm0 locs cells slots} hx hby hmx hnm hown hZ hI X => ?_) k
  obtain ⟨cl, e1, e2⟩ := hI.at_ (List.mem_cons_self ..)
  obtain ⟨cb, f1, f2⟩ := hI.at_ (List.mem_cons_of_mem _ ho)
  obtain ⟨T', h', X', eh, W, st⟩ := stR X hx hZ rfl (e2.1.arr e1) (inside e2.1 hj hi (List.getElem?_eq_getElem hlt)) rfl (Sto.of (e2.1.arr e1) e2.2 (Ins.of_exa (f2.exa f1) wc)) (g := mkF m pc ⟨Ls⟩ (.ref b :: .int j :: .ref a :: St)) rfl rfl (hb hby hd)
  exact ⟨T', h', _, _, X', eh, W, fun cl' e3 e4 => by rw [hi]; exact ⟨e4.1.set _ _, e4.2⟩, st⟩
/-- the first values of a layout's fields -/
abbrev Dv (lay : Lay) (dv : List Value) : Prop := lay.map (fun f => (parseFieldDescriptor f.2.2).map defaultValue) = dv.map some
theorem Wk.new {i n : Nat} {C : String} {lay : Lay} {dv : List Value} (hd : decode bytes pc = .ok (.new i, 3)) (hq : pc + 3 = q) (w : (Jvm.Cond.classLink y.cls i C).before a0 Z = true) (wi : (Jvm.Cond.instantiable C n).before a0 Z = true) (wz : (Jvm.Cond.initialized C).before a0 Z = true) (K : LayOk Z a0 C lay) (hdv : Dv lay dv)
    (hcb : 1 ≤ cb) (hsb : n ≤ sb) (k : ∀ a : Addr, Wk l Z a0 EL y bytes mx ret R Q ((a, true, OB Z C lay dv) :: L) (cb - 1) (sb - n) q Ls (.ref a :: St)) : Wk l Z a0 EL y bytes mx ret R Q L cb sb pc Ls St := by
  subst hq
  intro p e s m args below meth c T vm0 k0 locs cells slots hx hby hmx hret hlk hnm hown X hS hk hZ hE hI hF hc hs
  obtain ⟨T', h', X', rfl, E, A, D, -, st⟩ := newO X hx hZ hown w wi wz rfl (g := mkF m pc ⟨Ls⟩ St) rfl (hb hby hd) (by omega) (by omega)
  obtain ⟨cl, kc, e1, e2⟩ := A
  have hP : OB Z C lay dv cl := by
    refine ⟨⟨kc, e2⟩, fun j f v h1 h2 => of_fld e1 ?_⟩
    have q1 : (lay.map (fun f => (parseFieldDescriptor f.2.2).map defaultValue))[j]? = some ((parseFieldDescriptor f.2.2).map defaultValue) := by simp [h1]
    rw [show lay.map (fun f => (parseFieldDescriptor f.2.2).map defaultValue) = dv.map some from hdv] at q1
    simp only [List.getElem?_map, h2, Option.map_some, Option.some.injEq] at q1
    cases hp : parseFieldDescriptor f.2.2 with
    | none => rw [hp] at q1; cases q1
    | some t =>
      rw [hp] at q1
      simp only [Option.map_some, Option.some.injEq] at q1
      rw [q1]
      exact D (K.1 f (List.mem_of_getElem? h1)) hp
  obtain ⟨fin, v, Lc, L', h1, r⟩ := k T.heap.size p e s m args below meth c T' vm0 k0 locs (cells + 1) (slots + n) hx hby hmx hret hlk hnm hown X' hS (Nat.le_trans hk E.1) hZ hE (hI.new E e1 hP) hF (by omega) (by omega)
  exact ⟨fin, v, Lc, L', st _ h1, r⟩
theorem Wk.newarray {aty : ArrayType} {u : Int32} (ty : FieldType) (N : Nat) (vs0 : List Value) (hd : decode bytes pc = .ok (.newarray aty, 2)) (hq : pc + 2 = q) (hty : newarray.typeOf aty = ty) (h0 : List.replicate N (defaultValue ty) = vs0) (w : (Jvm.Cond.arrayClass ty).before a0 Z = true) (hu : ¬ u < 0) (hN : u.toNatClampNeg = N) (hbig : N ≤ 67108864) (hcb : 1 ≤ cb) (hsb : N ≤ sb)
    (k : ∀ a : Addr, Wk l Z a0 EL y bytes mx ret R Q ((a, true, AR Z ty vs0) :: L) (cb - 1) (sb - N) q Ls (.ref a :: St)) : Wk l Z a0 EL y bytes mx ret R Q L cb sb pc Ls (.int u :: St) := by
  subst hq hty h0
  intro p e s m args below meth c T vm0 k0 locs cells slots hx hby hmx hret hlk hnm hown X hS hk hZ hE hI hF hc hs
  obtain ⟨T', h', cA, X', rfl, E, A, st⟩ := newP X hx hZ w rfl (g := mkF m pc ⟨Ls⟩ (.int u :: St)) rfl (hb hby hd) rfl hu (cap := N) (Nat.le_of_eq hN) (by omega) (by omega) (by omega)
  have hP : AR Z (newarray.typeOf aty) (List.replicate N (defaultValue (newarray.typeOf aty))) (newA cA (newarray.typeOf aty) u) := ⟨A.2.1, A.2.2, by simp [newA, hN], by simp; omega⟩
  obtain ⟨fin, v, Lc, L', h1, r⟩ := k T.heap.size p e s m args below meth c T' vm0 k0 locs (cells + 1) (slots + N) hx hby hmx hret hlk hnm hown X' hS (Nat.le_trans hk E.1) hZ hE (hI.new E A.1 hP) hF (by omega) (by omega)
  exact ⟨fin, v, Lc, L', st _ h1, r⟩
theorem Wk.anewarray {i : Nat} {C : String} {u : Int32} (N : Nat) (vs0 : List Value) (hd : decode bytes pc = .ok (.anewarray i, 3)) (hq : pc + 3 = q) (w1 : (Jvm.Cond.classLink y.cls i C).before a0 Z = true) (h0 : List.replicate N Value.null = vs0) (w2 : (Jvm.Cond.arrayOver (.object C)).before a0 Z = true) (hu : ¬ u < 0) (hN : u.toNatClampNeg = N) (hbig : N ≤ 67108864) (hcb : 1 ≤ cb) (hsb : N ≤ sb)
    (k : ∀ a : Addr, Wk l Z a0 EL y bytes mx ret R Q ((a, true, RA Z C vs0) :: L) (cb - 1) (sb - N) q Ls (.ref a :: St)) : Wk l Z a0 EL y bytes mx ret R Q L cb sb pc Ls (.int u :: St) := by
  subst hq h0
  intro p e s m args below meth c T vm0 k0 locs cells slots hx hby hmx hret hlk hnm hown X hS hk hZ hE hI hF hc hs
  obtain ⟨T', h', cA, X', rfl, E, A, O, st⟩ := newR X hx hZ hown w1 w2 rfl (g := mkF m pc ⟨Ls⟩ (.int u :: St)) rfl (hb hby hd) rfl hu (cap := N) (Nat.le_of_eq hN) (by omega) (by omega) (by omega)
  have hP : RA Z C (List.replicate N .null) (newA cA (.object C) u) := ⟨⟨A.2.1, A.2.2, by simp [newA, hN, defaultValue], by simp; omega⟩, O⟩
  obtain ⟨fin, v, Lc, L', h1, r⟩ := k T.heap.size p e s m args below meth c T' vm0 k0 locs (cells + 1) (slots + N) hx hby hmx hret hlk hnm hown X' hS (Nat.le_trans hk E.1) hZ hE (hI.new E A.1 hP) hF (by omega) (by omega)
  exact ⟨fin, v, Lc, L', st _ h1, r⟩
/-- a String constant, opaque -/
theorem Wk.ldcO {i : Nat} {text : String} (n : Nat) (hd : decode bytes pc = .ok (.ldc i, 2)) (hq : pc + 2 = q) (w : (Jvm.Cond.stringLink y.cls i text).before a0 Z = true) (wS : ∀ a ∈ Bundle.stringAtoms, a.before a0 Z = true) (hn : 4 * text.toList.length ≤ n) (hbig : n ≤ 536870912) (hcb : 2 ≤ cb) (hsb : n + 4 ≤ sb)
    (k : ∀ a : Addr, Wk l Z a0 EL y bytes mx ret R Q L (cb - 2) (sb - (n + 4)) q Ls (.ref a :: St)) : Wk l Z a0 EL y bytes mx ret R Q L cb sb pc Ls St := by
  subst hq
  intro p e s m args below meth c T vm0 k0 locs cells slots hx hby hmx hret hlk hnm hown X hS hk hZ hE hI hF hc hs
  obtain ⟨a, T', h', k1, X', rfl, E, hS', hk', hW', hown', hC, -, st⟩ := ldcOH X hx hZ hown w wS rfl hS hk hE hI.2.1 (g := mkF m pc ⟨Ls⟩ St) rfl (hb hby hd) hn hbig (by omega) (by omega)
  obtain ⟨fin, v, Lc, L', h1, r⟩ := k a p e s m args below meth c T' T'.vm k1 locs (cells + 2) (slots + (n + 4)) hx hby hmx hret hlk hnm hown' X' hS' hk' hW' hE (hI.later E hC) hF (by omega) (by omega)
  exact ⟨fin, v, Lc, L', st _ h1, r⟩
def layS : Lay := [("java/lang/String", "value", "[B"), ("java/lang/String", "coder", "B")]
theorem ar_of_arv {Z : State} {h : Heap} {a : Addr} {k : ClassId} {ty : FieldType} {z : Int32} {vs : List Value} {d : Value} (A : Arv Z h a k ty z vs d) (hz : z.toNatClampNeg = vs.length) : ∃ c : Cell, h[a]? = some c ∧ AR Z ty vs c := by
  obtain ⟨c, A, -, h2, h3, H, -⟩ := A
  refine ⟨c, A.1, A.2.1, A.2.2, ?_, ?_⟩
  · apply List.ext_getElem?
    intro i
    rw [hz] at h2
    by_cases q : i < c.slots.size
    · have := H i q
      rw [Array.getElem?_toList, this]
      have q' : i < vs.length := by omega
      simp [List.getD, List.getElem?_eq_getElem q']
    · rw [Array.getElem?_toList, Array.getElem?_eq_none (by omega), List.getElem?_eq_none (by omega)]
  · rw [← hz]; exact (back32 h3).2
/-- a String constant, read -/
theorem Wk.ldcS {i : Nat} {text : String} (n : Nat) (vs : List Value) (z : Int32) (hd : decode bytes pc = .ok (.ldc i, 2)) (hq : pc + 2 = q) (w : (Jvm.Cond.stringLink y.cls i text).before a0 Z = true) (wS : ∀ a ∈ Bundle.stringAtoms, a.before a0 Z = true) (hmem : (y.cls, i) ∈ EL)
    (ht : (∀ c ∈ text.toList, c.toNat < 256) ∧ text.toList.map (fun c => Value.int (Jvm.Lit.byteI c.toNat.toUInt16)) = vs) (hz : ¬ z < 0) (hz' : z.toNatClampNeg = vs.length) (hn : 4 * text.toList.length ≤ n) (hbig : n ≤ 536870912) (hcb : 2 ≤ cb) (hsb : n + 4 ≤ sb)
    (k : ∀ a b : Addr, Wk l Z a0 EL y bytes mx ret R Q ((a, false, OB Z "java/lang/String" layS [.ref b, .int 0]) :: (b, false, AR Z .byte vs) :: L) (cb - 2) (sb - (n + 4)) q Ls (.ref a :: St)) : Wk l Z a0 EL y bytes mx ret R Q L cb sb pc Ls St := by
  subst hq
  intro p e s m args below meth c T vm0 k0 locs cells slots hx hby hmx hret hlk hnm hown X hS hk hZ hE hI hF hc hs
  obtain ⟨a, T', h', k1, b, kb, X', rfl, E, hS', hk', hW', hown', x1, x2, x3, x4, -, -, hC, -, hne, st⟩ := ldcCH X hx hZ hown w wS rfl hS hk hE hmem hI.2.1 ht hz hz' (g := mkF m pc ⟨Ls⟩ St) rfl (hb hby hd) hn hbig (by omega) (by omega)
  have I1 := hI.later E hC
  obtain ⟨cB, b1, b2⟩ := ar_of_arv x4 hz'
  have I2 := I1.old b1 b2 (fun x _ hs => (hne x hs).2)
  obtain ⟨cl, kc, e1, e2⟩ := x1
  have I3 := I2.old (P := OB Z "java/lang/String" layS [.ref b, .int 0]) e1 ⟨⟨kc, e2⟩, fun j f v h1 h2 => by
    match j, h1, h2 with
    | 0, h1, h2 => cases h1; cases h2; exact of_fld e1 x3
    | 1, h1, h2 => cases h1; cases h2; exact of_fld e1 x2
    | j + 2, h1, _ => cases h1⟩ (fun x _ hs => (hne x hs).1)
  obtain ⟨fin, v, Lc, L', h1, r⟩ := k a b p e s m args below meth c T' T'.vm k1 locs (cells + 2) (slots + (n + 4)) hx hby hmx hret hlk hnm hown' X' hS' hk' hW' hE I3 hF (by omega) (by omega)
  exact ⟨fin, v, Lc, L', st _ h1, r⟩
/-- what a value that is returned says; what a body that returns nothing says -/
def RV (Q : Value → Store → Prop) : Option Value → Store → Prop := fun v L => ∃ u, v = some u ∧ Q u L
def R0 (Q : Store → Prop) : Option Value → Store → Prop := fun v L => v = none ∧ Q L
theorem Wk.leave (v : Option Value) (hv : ret = none → v = none) (hQ : Q v L)
    (st : ∀ {p : Program} {e : Env} {s : State} {m : MethodId} {args : Array Value} {below : List Frame} {meth : Method} {c : Code} {T : State} {vm0 : Vm} {locs : List Loc} {cells slots : Nat} {fs : List Frame}, p.tables.exec = Jvm.exec → c.code = bytes → meth.sig.returnType = ret → Stand p l e R (s.setVm vm0) m args below meth c T locs cells slots →
      (∀ (f : JFrame) (acts : List Action), f.method = m → f.locked = none → f.entered = [] → (doReturn e (T.setTop f) acts v).1 = T.setFrames fs) → Steps p.tables e below (T.setTop (mkF m pc ⟨Ls⟩ St)) (T.setFrames fs)) : Wk l Z a0 EL y bytes mx ret R Q L cb sb pc Ls St := by
  intro p e s m args below meth c T vm0 k0 locs cells slots hx hby hmx hret hlk hnm hown X hS hk hZ hE hI hF hc hs
  obtain ⟨fs, hr, hrun, hended, hW⟩ := X.leaveW hS hk (v := v) (fun h => hv (hret ▸ h)) hlk
  have A : CHr Z EL vm0 T.heap T.vm T.heap := CHv.at X hZ hE hI.2.1
  have I' : Inv Z EL T.vm T.heap L := hI.later ⟨Nat.le_refl _, fun _ _ q => q⟩ A
  exact ⟨T.setFrames fs, v, locs, L, st hx hby hret X hr, hrun, hended, hQ, I', hF, endMono hW (by omega) (by omega)⟩
theorem Wk.return_ (hd : decode bytes pc = .ok (.return_, 1)) (hr : ret = none) (hQ : Q none L) : Wk l Z a0 EL y bytes mx ret R Q L cb sb pc Ls [] :=
  Wk.leave none (fun _ => rfl) hQ fun hx hby hret X hl => X.returnOut hx (hret.trans hr) (hb hby hd) hl
theorem Wk.ireturn {t : FieldType} {u : Int32} (hd : decode bytes pc = .ok (.ireturn, 1)) (hr : ret = some t) (ht : t = .int ∨ t = .boolean ∨ t = .byte ∨ t = .char ∨ t = .short) (hn : narrow t (.int u) = .int u) (hQ : Q (some (.int u)) L) : Wk l Z a0 EL y bytes mx ret R Q L cb sb pc Ls (.int u :: St) :=
  Wk.leave (some (.int u)) (fun h => by rw [hr] at h; cases h) hQ fun hx hby hret X hl => retOut X hx (hret.trans hr) hn (Or.inl ⟨rfl, ht, u, rfl⟩) (hb hby hd) hl
theorem Wk.lreturn {u : Int64} (hd : decode bytes pc = .ok (.lreturn, 1)) (hr : ret = some .long) (hQ : Q (some (.long u)) L) : Wk l Z a0 EL y bytes mx ret R Q L cb sb pc Ls (.long u :: St) :=
  Wk.leave (some (.long u)) (fun h => by rw [hr] at h; cases h) hQ fun hx hby hret X hl => retOut X hx (hret.trans hr) rfl (Or.inr (Or.inl ⟨rfl, rfl, u, rfl⟩)) (hb hby hd) hl
theorem Wk.areturn {t : FieldType} {u : Value} (hd : decode bytes pc = .ok (.areturn, 1)) (hr : ret = some t) (ht : t.isReference = true) (hn : narrow t u = u) (hu : u.isRef = true) (hQ : Q (some u) L) : Wk l Z a0 EL y bytes mx ret R Q L cb sb pc Ls (u :: St) :=
  Wk.leave (some u) (fun h => by rw [hr] at h; cases h) hQ fun hx hby hret X hl => retOut X hx (hret.trans hr) hn (Or.inr (Or.inr (Or.inr (Or.inr ⟨rfl, ht, hu⟩)))) (hb hby hd) hl
theorem Ct.of {as' : Array Value} (hp : plainFor y = true) (he : ∀ m, entryFrame m as' mx = mkF m 0 ⟨Ls⟩ []) (hE : EW Z a0 EL) (k : Wk l Z a0 EL y bytes mx ret R Q L R.cells R.slots 0 Ls []) : Ct l Z EL y bytes mx ret R as' L Q := by
  intro ws
  refine MetFree.of_bodySF hp hisR ?_
  intro p e s m args below meth c s₁ Bd hml0 hP hK
  obtain ⟨rfl, hZ, hI⟩ := hP
  have hheap : s₁.heap = s.heap := by rw [Bd.state]; rfl
  have X0 : Stand p l e R (s.setVm s.vm) m args below meth c s₁ [] 0 0 := Stand.of_body Bd
  obtain ⟨fin, v, Lc, L', h1, h2, h3, h4, h5, h6, h7⟩ := k p e s m args below meth c s₁ s.vm s.heap.size [] 0 0 Bd.exec Bd.bytes hml0 Bd.returns Bd.notSynchronized (name_of_methodNamed Bd.named Bd.method).1 (findClass_of_methodNamed Bd.named) X0 ((State.WarmedH.refl s).since _) (by rw [hheap]; exact Nat.le_refl _) hZ hE (by rw [hheap]; exact hI) (Fr.nil _) (by omega) (by omega)
  exact ⟨fin, .returned v, castTop (he m) h1, h2, h3, v, Lc, L', rfl, h4, h5, h6, h7⟩
theorem Ct.imp {as' : Array Value} (hq : ∀ v L, Q v L → Q' v L) (h : Ct l Z EL y bytes mx ret R as' L Q) : Ct l Z EL y bytes mx ret R as' L Q' := by
  intro ws p e ha hc hk s m args below hf happ hP hK
  obtain ⟨n, o, h1, h2, h3, v, Lc, L', h4, h5, h6⟩ := h ws p e ha hc hk s m args below hf happ hP hK
  exact ⟨n, o, h1, h2, h3, v, Lc, L', h4, hq _ _ h5, h6⟩
theorem Ct.perm {as' : Array Value} (hp : L.Perm L') (h : Ct l Z EL y bytes mx ret R as' L' Q) : Ct l Z EL y bytes mx ret R as' L Q := by
  intro ws p e ha hc hk s m args below hf happ hP hK
  exact h ws p e ha hc hk s m args below hf happ ⟨hP.1, hP.2.1, hP.2.2.perm hp⟩ hK
section Call
variable {y' : MethodName} {b' : ByteArray} {mx' : Nat} {ret' : Option FieldType} {rm : Room} {as' : Array Value} {W len : Nat} {h : Heap} {p : Program} {e : Env} {below : List Frame} {s : State} {args : Array Value} {vm0 : Vm}
theorem Ct.back (hC : Ct l Z EL y' b' mx' ret' rm as' L Q') (hZ : Z.Warmed39 vm0) (hE : EW Z a0 EL) (hI : Inv Z EL vm0 h L) (wc : (Jvm.Cond.code y' b' mx' ret').before a0 Z = true) (wz : (Jvm.Cond.initialized y'.cls).before a0 Z = true) (hf : rm.frames + 1 ≤ R.frames) (hl : W + (mx' + 11) + rm.locals ≤ R.locals) :
    BackS l R p e below (s.setVm vm0) args y' len W (fun A a => a = as' ∧ A.U.heap = h ∧ A.cells + rm.cells ≤ R.cells ∧ A.slots + rm.slots ≤ R.slots)
      (fun A _ v B => ∃ Lc L', Q' v L' ∧ Inv Z EL B.U.vm B.U.heap L' ∧ Fr Z.heap.size Lc ∧ B.locs = A.locs ++ Lc ∧ B.cells = A.cells + rm.cells ∧ B.slots = A.slots + rm.slots) :=
  BackS.of_freeW (bytes := b') (maxL := mx') (ret := ret') (E := fun _ _ o t Lc k n => k = rm.cells ∧ n = rm.slots ∧ Fr Z.heap.size Lc ∧ ∃ v L', o = .returned v ∧ Q' v L' ∧ Inv Z EL t.vm t.heap L') (hC []) hf hl
    (fun m meth c A a Y hp => have hU : Z.Warmed39 A.U.vm := wtrans (s := s.setVm vm0) hZ Y.warmed
      ⟨by show (Jvm.Cond.and _ .tt).before a A.U = true; rw [Cond.before_and, mv hU wc]; rfl, mv hU wc, mv hU wz, hp.2.2.1, hp.2.2.2⟩)
    (fun m meth c A a g mk Y hp => ⟨hp.1, wtrans (s := s.setVm vm0) hZ Y.warmed, by
      show Inv Z EL A.U.vm A.U.heap L
      rw [hp.2.1]; exact hI.later ⟨Nat.le_refl _, fun _ _ q => q⟩ (CHv.at Y hZ hE hI.2.1)⟩) (fun _ _ _ _ _ _ _ _ _ => trivial)
    (fun _ _ _ _ ⟨v, Lc, L', h1, h2, h3, h4, h5⟩ => ⟨Lc, _, _, h5, rfl, rfl, h4, v, L', h1, h2, h3⟩)
    (fun m meth c A a g mk v t Lc k n Y hp _ _ ⟨e1, e2, e3, v', L', e4, e5, e6⟩ => by
      cases e4; subst e1 e2
      exact ⟨Lc, L', e5, e6, e3, rfl, rfl, rfl⟩)
/-- A CALL, whichever -/
theorem Wk.call {St' : List Value} (hC : Ct l Z EL y' b' mx' ret' rm as' L Q') (wc : (Jvm.Cond.code y' b' mx' ret').before a0 Z = true) (wz : (Jvm.Cond.initialized y'.cls).before a0 Z = true) (hf : rm.frames + 1 ≤ R.frames) (hl : W + (mx' + 11) + rm.locals ≤ R.locals) (hcb : rm.cells ≤ cb) (hsb : rm.slots ≤ sb)
    (go : ∀ {p : Program} {e : Env} {s : State} {m : MethodId} {args : Array Value} {below : List Frame} {meth : Method} {c : Code} {T : State} {vm0 : Vm} {locs : List Loc} {cells slots : Nat} {Pre : Pt → Array Value → Prop} {Post : Pt → Array Value → Option Value → Pt → Prop}, p.tables.exec = Jvm.exec → c.code = bytes → c.maxLocals = mx → vm0.findClass y.cls = some m.cls → Z.Warmed39 vm0 → Inv Z EL vm0 T.heap L →
      Stand p l e R (s.setVm vm0) m args below meth c T locs cells slots → BackS l R p e below (s.setVm vm0) args y' len W Pre Post → (∀ vm₁, (s.setVm vm0).WarmedH vm₁ → Pre ⟨T.setVm vm₁, locs, cells, slots⟩ as') →
      ∃ (v : Option Value) (vm₁ : Vm) (B : Pt), (s.setVm vm0).WarmedH vm₁ ∧ Stand p l e R ((s.setVm vm0).setVm B.U.vm) m args below meth c B.U B.locs B.cells B.slots ∧ (s.setVm vm0).Since B.U.vm B.U.heap.size ∧ T.heap.size ≤ B.U.heap.size ∧ Post ⟨T.setVm vm₁, locs, cells, slots⟩ as' v B ∧ Steps p.tables e below (T.setTop (mkF m pc ⟨Ls⟩ St)) (B.U.setTop (mkF m q ⟨Ls⟩ (v.toList ++ St'))))
    (k : ∀ v L', Q' v L' → Wk l Z a0 EL y bytes mx ret R Q L' (cb - rm.cells) (sb - rm.slots) q Ls (v.toList ++ St')) : Wk l Z a0 EL y bytes mx ret R Q L cb sb pc Ls St := by
  intro p e s m args below meth c T vm0 k0 locs cells slots hx hby hmx hret hlk hnm hown X hS hk hZ hE hI hF hc hs
  obtain ⟨v, vm₁, B, -, X', hS', hgr, ⟨Lc, L', q1, q2, q3, q4, q5, q6⟩, st⟩ := go hx hby hmx hown hZ hI X (Ct.back (len := len) hC hZ hE hI wc wz hf hl) (fun vm₁ _ => ⟨rfl, rfl, by show cells + _ ≤ _; omega, by show slots + _ ≤ _; omega⟩)
  obtain ⟨U, Lx, cx, sx⟩ := B
  dsimp only [Pt.U, Pt.locs, Pt.cells, Pt.slots] at X' hS' hgr q2 q4 q5 q6 st
  subst q4 q5 q6
  obtain ⟨fin, v, Lc', L'', h1, r⟩ := k v L' q1 p e s m args below meth c U U.vm U.heap.size _ _ _ hx hby hmx hret hlk hnm (by rw [hS'.1.alike.findClass]; exact hown) X' (hS.trans hS' (Nat.le_trans hk hgr)) (Nat.le_refl _) (State.Warmed39.trans (t := s.setVm vm0) hZ hS'.1) hE q2 (hF.app q3) (by omega) (by omega)
  exact ⟨fin, v, Lc', L'', st.trans h1, r⟩
end Call
section Calls
variable {y' : MethodName} {b' : ByteArray} {mx' : Nat} {ret' : Option FieldType} {rm : Room} {i : Nat}
theorem Wk.static (argsL rest : List Value) (W : Nat) {na : Nat} (hd : decode bytes pc = .ok (.invokestatic i, 3)) (hq : pc + 3 = q) (w1 : (Jvm.Cond.methodLink y.cls i y').before a0 Z = true) (w2 : (Jvm.Cond.static y').before a0 Z = true) (wz : (Jvm.Cond.initialized y'.cls).before a0 Z = true) (wc : (Jvm.Cond.code y' b' mx' ret').before a0 Z = true) (har : XT.arity y'.desc = some na) (hy : y'.cls ≠ "java/lang/invoke/MethodHandle" ∧ y'.cls ≠ "java/lang/invoke/VarHandle")
    (hst : St = argsL.reverse ++ rest) (hna : argsL.length = na) (hW : (rest.map fun v => v.category).sum = W) (hz : Ls.length = mx) (hC : Ct l Z EL y' b' mx' ret' rm argsL.toArray L Q') (hf : rm.frames + 1 ≤ R.frames) (hl : W + (mx' + 11) + rm.locals ≤ R.locals) (hcb : rm.cells ≤ cb) (hsb : rm.slots ≤ sb)
    (k : ∀ v L', Q' v L' → Wk l Z a0 EL y bytes mx ret R Q L' (cb - rm.cells) (sb - rm.slots) q Ls (v.toList ++ rest)) : Wk l Z a0 EL y bytes mx ret R Q L cb sb pc Ls St := by
  subst hq hst
  refine Wk.call (len := 3) hC wc wz hf hl hcb hsb (fun {p e s m args below meth c T vm0 locs cells slots Pre Post} hx hby hmx hown hZ hI X hK hpre => ?_) k
  exact callSS X hx hown (mv (s := s.setVm vm0) hZ w1) (mv (s := s.setVm vm0) hZ w2) (mv (s := s.setVm vm0) hZ wz) (mv (s := s.setVm vm0) hZ wc) hy hK (g := mkF m pc ⟨Ls⟩ (argsL.reverse ++ rest)) rfl (by rw [hmx]; simpa using hz) (XT.arity_len har hna) rfl (by show 2 * 0 + _ ≤ _; rw [hW]; omega) (hb hby hd) hpre
theorem Wk.special {a : Addr} (argsL rest : List Value) (W : Nat) {na : Nat} (hd : decode bytes pc = .ok (.invokespecial i, 3)) (hq : pc + 3 = q) (hy1 : y'.name = "<init>") (w1 : (Jvm.Cond.methodLink y.cls i y').before a0 Z = true) (w2 : (Jvm.Cond.instanceMethod y').before a0 Z = true) (wz : (Jvm.Cond.initialized y'.cls).before a0 Z = true) (wc : (Jvm.Cond.code y' b' mx' none).before a0 Z = true) (har : XT.arity y'.desc = some na) (hy : y'.cls ≠ "java/lang/invoke/MethodHandle" ∧ y'.cls ≠ "java/lang/invoke/VarHandle")
    (hst : St = argsL.reverse ++ .ref a :: rest) (hna : argsL.length = na) (hW : (rest.map fun v => v.category).sum = W) (hz : Ls.length = mx) (hC : Ct l Z EL y' b' mx' none rm (.ref a :: argsL).toArray L Q') (hf : rm.frames + 1 ≤ R.frames) (hl : W + (mx' + 11) + rm.locals ≤ R.locals) (hcb : rm.cells ≤ cb) (hsb : rm.slots ≤ sb)
    (k : ∀ v L', Q' v L' → Wk l Z a0 EL y bytes mx ret R Q L' (cb - rm.cells) (sb - rm.slots) q Ls (v.toList ++ rest)) : Wk l Z a0 EL y bytes mx ret R Q L cb sb pc Ls St := by
  subst hq hst
  refine Wk.call (len := 3) hC wc wz hf hl hcb hsb (fun {p e s m args below meth c T vm0 locs cells slots Pre Post} hx hby hmx hown hZ hI X hK hpre => ?_) k
  exact X.specialBackS hx hy1 hown (mv (s := s.setVm vm0) hZ w1) (mv (s := s.setVm vm0) hZ w2) (mv (s := s.setVm vm0) hZ wc) hy hK (g := mkF m pc ⟨Ls⟩ (argsL.reverse ++ .ref a :: rest)) rfl (by rw [hmx]; simpa using hz) (Steps.refl _) (XT.arity_len har hna) rfl (by show 2 * 0 + _ ≤ _; rw [hW]; omega) (hb hby hd) hpre
theorem nfSel {y0 : MethodName} {C : String} (w : (Jvm.Cond.selects C y0 y0).before a0 Z = true) : ∀ s : State, Z.Warmed39 s.vm → NotFace s y0 := fun s hZ => notFace_of_selects (args := #[]) (mv hZ w)
theorem nfSup {y0 : MethodName} {S : String} (w : (Jvm.Cond.superclass y0.cls S).before a0 Z = true) : ∀ s : State, Z.Warmed39 s.vm → NotFace s y0 := fun s hZ => nf_super (args := #[]) (mv hZ w)
theorem nfTop {y0 : MethodName} (w : (Jvm.Cond.noSuperclass y0.cls).before a0 Z = true) : ∀ s : State, Z.Warmed39 s.vm → NotFace s y0 := fun s hZ => nf_top (args := #[]) (mv hZ w)
theorem Wk.virtual {a : Addr} {fl : Bool} {C : String} {lay : Lay} {vs : List Value} {y0 : MethodName} (argsL rest : List Value) (W : Nat) {na : Nat} (hd : decode bytes pc = .ok (.invokevirtual i, 3)) (hq : pc + 3 = q) (w1 : (Jvm.Cond.methodLink y.cls i y0).before a0 Z = true) (w2 : (Jvm.Cond.declares y0).before a0 Z = true) (w3 : (Jvm.Cond.selects C y0 y').before a0 Z = true) (w4 : (Jvm.Cond.instanceMethod y').before a0 Z = true) (wz : (Jvm.Cond.initialized y'.cls).before a0 Z = true) (wc : (Jvm.Cond.code y' b' mx' ret').before a0 Z = true)
    (har : XT.arity y0.desc = some na) (hy : y0.cls ≠ "java/lang/invoke/MethodHandle" ∧ y0.cls ≠ "java/lang/invoke/VarHandle") (nf : ∀ s : State, Z.Warmed39 s.vm → NotFace s y0) (hm : (a, fl, OB Z C lay vs) ∈ L)
    (hst : St = argsL.reverse ++ .ref a :: rest) (hna : argsL.length = na) (hW : (rest.map fun v => v.category).sum = W) (hz : Ls.length = mx) (hC : Ct l Z EL y' b' mx' ret' rm (.ref a :: argsL).toArray L Q') (hf : rm.frames + 1 ≤ R.frames) (hl : W + (mx' + 11) + rm.locals ≤ R.locals) (hcb : rm.cells ≤ cb) (hsb : rm.slots ≤ sb)
    (k : ∀ v L', Q' v L' → Wk l Z a0 EL y bytes mx ret R Q L' (cb - rm.cells) (sb - rm.slots) q Ls (v.toList ++ rest)) : Wk l Z a0 EL y bytes mx ret R Q L cb sb pc Ls St := by
  subst hq hst
  refine Wk.call (len := 3) hC wc wz hf hl hcb hsb (fun {p e s m args below meth c T vm0 locs cells slots Pre Post} hx hby hmx hown hZ hI X hK hpre => ?_) k
  obtain ⟨cl, e1, e2⟩ := hI.at_ hm
  obtain ⟨cq, kq, q1, -, q3⟩ := isOf (T := T) (s := s.setVm vm0) hZ rfl (e2.exa e1)
  exact X.virtualBackS hx hown (mv (s := s.setVm vm0) hZ w1) (mv (s := s.setVm vm0) hZ w2) (nf (s.setVm vm0) hZ) (mv (s := s.setVm vm0) hZ w3) (mv (s := s.setVm vm0) hZ w4) hy hK q1 q3 (g := mkF m pc ⟨Ls⟩ (argsL.reverse ++ .ref a :: rest)) rfl (by rw [hmx]; simpa using hz) (Steps.refl _) (XT.arity_len har hna) rfl (by show 2 * 0 + _ ≤ _; rw [hW]; omega) (hb hby hd) hpre
theorem Wk.interface {a : Addr} {fl : Bool} {C : String} {lay : Lay} {vs : List Value} {y0 : MethodName} {cnt : Nat} (argsL rest : List Value) (W : Nat) {na : Nat} (hd : decode bytes pc = .ok (.invokeinterface i cnt, 5)) (hq : pc + 5 = q) (w1 : (Jvm.Cond.methodLink y.cls i y0).before a0 Z = true) (w2 : (Jvm.Cond.declares y0).before a0 Z = true) (w5 : (Jvm.Cond.interfaceMethod y0.cls y0.cls y0.name y0.desc).before a0 Z = true) (hd5 : ((Jvm.Cond.interfaceMethod y0.cls y0.cls y0.name y0.desc).onTables && (Jvm.Cond.interfaceMethod y0.cls y0.cls y0.name y0.desc).keepsFace) = true) (w3 : (Jvm.Cond.selects C y0 y').before a0 Z = true) (w4 : (Jvm.Cond.instanceMethod y').before a0 Z = true) (w6 : (Jvm.Cond.publicMethod y').before a0 Z = true) (w7 : (Jvm.Cond.unhidden C y0.name y0.desc).before a0 Z = true) (w8 : (Jvm.Cond.castable C y0.cls).before a0 Z = true) (wz : (Jvm.Cond.initialized y'.cls).before a0 Z = true) (wc : (Jvm.Cond.code y' b' mx' ret').before a0 Z = true)
    (har : XT.arity y0.desc = some na) (hy : y0.cls ≠ "java/lang/invoke/MethodHandle" ∧ y0.cls ≠ "java/lang/invoke/VarHandle") (hm : (a, fl, OB Z C lay vs) ∈ L)
    (hst : St = argsL.reverse ++ .ref a :: rest) (hna : argsL.length = na) (hW : (rest.map fun v => v.category).sum = W) (hz : Ls.length = mx) (hC : Ct l Z EL y' b' mx' ret' rm (.ref a :: argsL).toArray L Q') (hf : rm.frames + 1 ≤ R.frames) (hl : W + (mx' + 11) + rm.locals ≤ R.locals) (hcb : rm.cells ≤ cb) (hsb : rm.slots ≤ sb)
    (k : ∀ v L', Q' v L' → Wk l Z a0 EL y bytes mx ret R Q L' (cb - rm.cells) (sb - rm.slots) q Ls (v.toList ++ rest)) : Wk l Z a0 EL y bytes mx ret R Q L cb sb pc Ls St := by
  subst hq hst
  refine Wk.call (len := 5) hC wc wz hf hl hcb hsb (fun {p e s m args below meth c T vm0 locs cells slots Pre Post} hx hby hmx hown hZ hI X hK hpre => ?_) k
  obtain ⟨cl, e1, e2⟩ := hI.at_ hm
  obtain ⟨cq, kq, q1, q2, q3⟩ := isOf (T := T) (s := s.setVm vm0) hZ rfl (e2.exa e1)
  exact X.interfaceBackS hx hown (mv (s := s.setVm vm0) hZ w1) (mv (s := s.setVm vm0) hZ w2) (mv (s := s.setVm vm0) hZ w5 hd5) (mv (s := s.setVm vm0) hZ w3) (mv (s := s.setVm vm0) hZ w4) (mv (s := s.setVm vm0) hZ w6) (mv (s := s.setVm vm0) hZ w7) (mv (s := s.setVm vm0) hZ w8) hy hK q1 q2 q3 (g := mkF m pc ⟨Ls⟩ (argsL.reverse ++ .ref a :: rest)) rfl (by rw [hmx]; simpa using hz) (Steps.refl _) (XT.arity_len har hna) rfl (by show 2 * 0 + _ ≤ _; rw [hW]; omega) (hb hby hd) hpre
end Calls
theorem kv {Q0 : Value → Store → Prop} (k : ∀ u L', Q0 u L' → Wk l Z a0 EL y bytes mx ret R Q L' cb sb q Ls (u :: rest)) : ∀ v L', RV Q0 v L' → Wk l Z a0 EL y bytes mx ret R Q L' cb sb q Ls (v.toList ++ rest) := by
  rintro _ L' ⟨u, rfl, h⟩; exact k u L' h
theorem k0 {Q0 : Store → Prop} (k : ∀ L', Q0 L' → Wk l Z a0 EL y bytes mx ret R Q L' cb sb q Ls rest) : ∀ v L', R0 Q0 v L' → Wk l Z a0 EL y bytes mx ret R Q L' cb sb q Ls (v.toList ++ rest) := by
  rintro _ L' ⟨rfl, h⟩; exact k L' h
end Rules
/-- a branch both ways -/
def cP : ClassFile.Cond → Int32 → Int32 → Prop
  | .eq, u, w => u = w
  | .ne, u, w => ¬ u = w
  | .lt, u, w => u < w
  | .ge, u, w => ¬ u < w
  | .gt, u, w => w < u
  | .le, u, w => ¬ w < u
def cneg : ClassFile.Cond → ClassFile.Cond
  | .eq => .ne
  | .ne => .eq
  | .lt => .ge
  | .ge => .lt
  | .gt => .le
  | .le => .gt
theorem icmp_of {cd : ClassFile.Cond} {u w : Int32} : (cP cd u w ∧ if_icmp.holds cd u w = true) ∨ (cP (cneg cd) u w ∧ if_icmp.holds cd u w = false) := by
  cases cd
  · by_cases h : u = w
    · exact Or.inl ⟨h, XT.ii_eq_t h⟩
    · exact Or.inr ⟨h, XT.ii_eq_f h⟩
  · by_cases h : u = w
    · exact Or.inr ⟨h, XT.ii_ne_f h⟩
    · exact Or.inl ⟨h, XT.ii_ne_t h⟩
  · by_cases h : u < w
    · exact Or.inl ⟨h, XT.ii_lt_t h⟩
    · exact Or.inr ⟨h, XT.ii_lt_f h⟩
  · by_cases h : u < w
    · exact Or.inr ⟨h, XT.ii_ge_f h⟩
    · exact Or.inl ⟨h, XT.ii_ge_t h⟩
  · by_cases h : w < u
    · exact Or.inl ⟨h, XT.ii_gt_t h⟩
    · exact Or.inr ⟨h, XT.ii_gt_f h⟩
  · by_cases h : w < u
    · exact Or.inr ⟨h, XT.ii_le_f h⟩
    · exact Or.inl ⟨h, XT.ii_le_t h⟩
theorem if_of {cd : ClassFile.Cond} {u : Int32} : (cP cd u 0 ∧ ifCond.holds cd u = true) ∨ (cP (cneg cd) u 0 ∧ ifCond.holds cd u = false) := by
  cases cd
  · by_cases h : u = 0
    · exact Or.inl ⟨h, XT.i0_eq_t h⟩
    · exact Or.inr ⟨h, XT.i0_eq_f h⟩
  · by_cases h : u = 0
    · exact Or.inr ⟨h, XT.i0_ne_f h⟩
    · exact Or.inl ⟨h, XT.i0_ne_t h⟩
  · by_cases h : u < 0
    · exact Or.inl ⟨h, XT.i0_lt_t h⟩
    · exact Or.inr ⟨h, XT.i0_lt_f h⟩
  · by_cases h : u < 0
    · exact Or.inr ⟨h, XT.i0_ge_f h⟩
    · exact Or.inl ⟨h, XT.i0_ge_t h⟩
  · by_cases h : 0 < u
    · exact Or.inl ⟨h, XT.i0_gt_t h⟩
    · exact Or.inr ⟨h, XT.i0_gt_f h⟩
  · by_cases h : 0 < u
    · exact Or.inr ⟨h, XT.i0_le_f h⟩
    · exact Or.inl ⟨h, XT.i0_le_t h⟩
section Rules2
variable {l : Launch} {Z : State} {a0 : Array Value} {EL : List (String × Nat)} {y : MethodName} {bytes : ByteArray} {mx : Nat} {ret : Option FieldType} {R : Room} {Q Q' : Option Value → Store → Prop} {L L0 L' : Store} {cb sb pc q q' : Nat} {Ls Ls' : List Slot} {St rest : List Value}
theorem Wk.icmp_s {cd : ClassFile.Cond} {u w : Int32} {o : Int} (hd : decode bytes pc = .ok (.if_icmp cd o, 3)) (ho : 0 ≤ (pc : Int) + o) (hq : ((pc : Int) + o).toNat = q) (hq' : pc + 3 = q') (k1 : cP cd u w → Wk l Z a0 EL y bytes mx ret R Q L cb sb q Ls St) (k2 : cP (cneg cd) u w → Wk l Z a0 EL y bytes mx ret R Q L cb sb q' Ls St) : Wk l Z a0 EL y bytes mx ret R Q L cb sb pc Ls (.int w :: .int u :: St) := by
  rcases icmp_of (cd := cd) (u := u) (w := w) with ⟨h, h'⟩ | ⟨h, h'⟩
  · exact Wk.icmp_t hd ho hq h' (k1 h)
  · exact Wk.icmp_f hd hq' h' (k2 h)
theorem Wk.if_s {cd : ClassFile.Cond} {u : Int32} {o : Int} (hd : decode bytes pc = .ok (.ifCond cd o, 3)) (ho : 0 ≤ (pc : Int) + o) (hq : ((pc : Int) + o).toNat = q) (hq' : pc + 3 = q') (k1 : cP cd u 0 → Wk l Z a0 EL y bytes mx ret R Q L cb sb q Ls St) (k2 : cP (cneg cd) u 0 → Wk l Z a0 EL y bytes mx ret R Q L cb sb q' Ls St) : Wk l Z a0 EL y bytes mx ret R Q L cb sb pc Ls (.int u :: St) := by
  rcases if_of (cd := cd) (u := u) with ⟨h, h'⟩ | ⟨h, h'⟩
  · exact Wk.if_t hd ho hq h' (k1 h)
  · exact Wk.if_f hd hq' h' (k2 h)
end Rules2
theorem Wk.know {l : Launch} {Z : State} {a0 : Array Value} {EL : List (String × Nat)} {y : MethodName} {bytes : ByteArray} {mx : Nat} {ret : Option FieldType} {R : Room} {Q : Option Value → Store → Prop} {L : Store} {cb sb pc : Nat} {Ls : List Slot} {St : List Value} {P : Prop} (hp : ∀ vm h, Inv Z EL vm h L → P) (k : P → Wk l Z a0 EL y bytes mx ret R Q L cb sb pc Ls St) : Wk l Z a0 EL y bytes mx ret R Q L cb sb pc Ls St := by
  intro p e s m args below meth c T vm0 k0 locs cells slots hx hby hmx hret hlk hnm hown X hS hk hZ hE hI hF hc hs
  exact k (hp _ _ hI) p e s m args below meth c T vm0 k0 locs cells slots hx hby hmx hret hlk hnm hown X hS hk hZ hE hI hF hc hs
theorem Inv.sameObj {Z : State} {EL : List (String × Nat)} {vm : Vm} {h : Heap} {L : Store} {a : Addr} {f f' : Bool} {C C' : String} {lay : Lay} {vs vs' : List Value} {j : Nat} {g : String × String × String} {v v' : Value} (I : Inv Z EL vm h L) (h1 : (a, f, OB Z C lay vs) ∈ L) (h2 : (a, f', OB Z C' lay vs') ∈ L) (hj : lay[j]? = some g) (hv : vs[j]? = some v) (hv' : vs'[j]? = some v') : v = v' := by
  obtain ⟨c, e1, e2⟩ := I.at_ h1
  obtain ⟨c', g1, g2⟩ := I.at_ h2
  cases e1.symm.trans g1
  obtain ⟨_, _, _, fi, x1, -, -, -, -, x6⟩ := e2.2 j g v hj hv
  obtain ⟨_, _, _, fi', y1, -, -, -, -, y6⟩ := g2.2 j g v' hj hv'
  cases x1.symm.trans y1
  exact Option.some.inj (x6.symm.trans y6)
theorem Inv.sameArr {Z : State} {EL : List (String × Nat)} {vm : Vm} {h : Heap} {L : Store} {a : Addr} {f f' : Bool} {ty ty' : FieldType} {vs vs' : List Value} (I : Inv Z EL vm h L) (h1 : (a, f, AR Z ty vs) ∈ L) (h2 : (a, f', AR Z ty' vs') ∈ L) : vs = vs' := by
  obtain ⟨c, e1, e2⟩ := I.at_ h1
  obtain ⟨c', g1, g2⟩ := I.at_ h2
  cases e1.symm.trans g1
  exact e2.2.2.1.symm.trans g2.2.2.1
theorem map_int_inj {xs ys : List Int32} (h : xs.map Value.int = ys.map Value.int) : xs = ys := (List.map_inj_right (fun a b e => by injection e)).mp h
theorem efOf {m : MethodId} {args : Array Value} {n : Nat} {Ls : List Slot} (h : Jvm.Sym.laidSlots args.toList ++ List.replicate (n - (Jvm.Sym.laidSlots args.toList).length) .unset = Ls) : entryFrame m args n = mkF m 0 ⟨Ls⟩ [] := by
  have : argsToLocals args n = ⟨Ls⟩ := Array.toList_inj.mp (by rw [Jvm.Sym.argsToLocals_toList]; exact h)
  unfold entryFrame
  rw [this]
theorem fitO {c : String} {v : Value} (h : v.isRef = true) : fits (.object c) v = true := by cases v <;> first | rfl | exact Bool.noConfusion h
theorem fitA {c : FieldType} {v : Value} (h : v.isRef = true) : fits (.array c) v = true := by cases v <;> first | rfl | exact Bool.noConfusion h
theorem narO {c : String} {v : Value} : narrow (.object c) v = v := by cases v <;> rfl
theorem narA {c : FieldType} {v : Value} : narrow (.array c) v = v := by cases v <;> rfl
theorem staOf {Z : State} {args a0 : Array Value} {C n d K : String} (h : (Jvm.Cond.exactly (Term.static C n d) K).value args Z none Z [] = some true) (hi : (Jvm.Cond.initialized C).before a0 Z = true) (hl : (Jvm.Cond.laysStatic C n d).before a0 Z = true) : ∃ a : Addr, Sta Z Z.heap C n d (.ref a) ∧ Exa Z Z.heap a K := by
  obtain ⟨a, ev⟩ := exa_v h
  exact ⟨a, Sta.start (args := args) ev (Or.inr ⟨hi, hl⟩), Exa.start ev h⟩
theorem compact {Z : State} {args : Array Value} (h1 : (Jvm.Cond.initializedFor "java/lang/String" "COMPACT_STRINGS" "Z").before args Z = true) (h2 : (Jvm.Cond.isInt (Term.static "java/lang/String" "COMPACT_STRINGS" "Z")).before args Z = true) (h3 : (Jvm.Cond.not (Jvm.Cond.eq (Term.static "java/lang/String" "COMPACT_STRINGS" "Z") (.int 0))).before args Z = true) : ∃ z, z ≠ (0 : Int32) ∧ Sta Z Z.heap "java/lang/String" "COMPACT_STRINGS" "Z" (.int z) := by
  obtain ⟨z, ev⟩ := is_v (Cond.before_iff.mp h2)
  refine ⟨z, fun e => ?_, Sta.start (args := args) ev (Or.inl h1)⟩
  have h := not_v (Cond.before_iff.mp h3)
  rw [eq_i ev (Term.int_eval 0) (by rw [e])] at h
  cases h
theorem staI {Z : State} {args : Array Value} {C n d : String} {z : Int32} (h1 : (Jvm.Cond.initializedFor C n d).before args Z = true) (h2 : (Jvm.Cond.eq (Term.static C n d) (.int z)).before args Z = true) : Sta Z Z.heap C n d (.int z) := by
  have h := Cond.before_iff.mp h2
  obtain ⟨x, y, ex, ey, kx, -⟩ := cmp_v (Or.inl h)
  cases (Term.int_eval z).symm.trans ey
  have e : x = .int z := by
    have q := h
    cases x with
    | int w =>
      simp only [Jvm.Cond.value, ex, Term.int_eval, Option.some.injEq, decide_eq_true_eq] at q
      rw [q]
    | long _ => obtain ⟨_, kx⟩ := kx; cases kx
    | float _ => obtain ⟨_, kx⟩ := kx; cases kx
    | double _ => obtain ⟨_, kx⟩ := kx; cases kx
    | _ => exact Bool.noConfusion kx.2
  subst e
  exact Sta.start (args := args) ex (Or.inl h1)
theorem nar8 (x : Int32) : nar .byte x.toInt8.toInt32 = x.toInt8.toInt32 := by simp [nar]
/-! numbers -/
theorem nchar_mask (x : Int32) : nar .char (x &&& 255) = x &&& 255 := i2c_mask x
theorem mask_lat (x : Int32) : 0 ≤ (x &&& 255).toInt ∧ (x &&& 255).toInt < 256 := by
  have := c_and x 255 (by decide)
  have e : (255 : Int32).toInt = 255 := by decide
  omega
theorem remR (x : Int32) (k : Int32) (d : Int) (hx : 0 ≤ x.toInt) (hd : k.toInt = d) (hk : 0 < d) : 0 ≤ (x % k).toInt ∧ (x % k).toInt < d := by
  have := (c_iremV x k).1 hx (by omega)
  omega
theorem maskR (x : Int32) : 0 ≤ (x &&& 2147483647).toInt := (c_and x 2147483647 (by decide)).1
theorem lit32 {x : Int32} {n : Int} (h : x.toInt = n) (m : Int32) (hm : m.toInt = n) : x = m := Int32.toInt_inj.mp (h.trans hm.symm)
theorem rem4 (x : Int32) : (x &&& 2147483647) % 4 = 0 ∨ (x &&& 2147483647) % 4 = 1 ∨ (x &&& 2147483647) % 4 = 2 ∨ (x &&& 2147483647) % 4 = 3 := by
  have h := remR (x &&& 2147483647) 4 4 (maskR x) (by decide) (by decide)
  generalize (x &&& 2147483647) % 4 = r at *
  have h4 : r.toInt = 0 ∨ r.toInt = 1 ∨ r.toInt = 2 ∨ r.toInt = 3 := by omega
  rcases h4 with h | h | h | h
  · exact Or.inl (lit32 h 0 (by decide))
  · exact Or.inr (Or.inl (lit32 h 1 (by decide)))
  · exact Or.inr (Or.inr (Or.inl (lit32 h 2 (by decide))))
  · exact Or.inr (Or.inr (Or.inr (lit32 h 3 (by decide))))
theorem pw0 : ((2 ^ 0 : Nat) : Int) = 1 := rfl
theorem pw1 : ((2 ^ 1 : Nat) : Int) = 2 := rfl
theorem pw8 : ((2 ^ 8 : Nat) : Int) = 256 := rfl
theorem pw31 : ((2 ^ 31 : Nat) : Int) = 2147483648 := rfl
theorem n32 {n : Nat} (h : n < 2 ^ 31) : n.toInt32.toInt = n := len_toInt h
theorem n32_nn {n : Nat} (h : n < 2 ^ 31) : ¬ n.toInt32 < 0 := by rw [Int32.lt_iff_toInt_lt, n32 h]; show ¬ (n : Int) < 0; omega
theorem n32_nat {n : Nat} (h : n < 2 ^ 31) : n.toInt32.toNatClampNeg = n := by simp only [Int32.toNatClampNeg, n32 h]; rfl
theorem n32_lt {i n : Nat} (hi : i < 2 ^ 31) (hn : n < 2 ^ 31) : i.toInt32 < n.toInt32 ↔ i < n := by rw [Int32.lt_iff_toInt_lt, n32 hi, n32 hn]; omega
theorem n32_inj {i n : Nat} (hi : i < 2 ^ 31) (hn : n < 2 ^ 31) : i.toInt32 = n.toInt32 ↔ i = n := by rw [← Int32.toInt_inj, n32 hi, n32 hn]; omega
theorem n32_succ (i : Nat) : i.toInt32 + 1 = (i + 1).toInt32 := (Int32.ofNat_add i 1).symm
end Jvm.OwnW
namespace Jvm.OwnW
open Jvm Jvm.ClassFile Sem Op Lib Jvm.Free Jvm.Stand Jvm.LawKit Jvm.RoadKit
theorem Inv.keep {Z : State} {EL : List (String × Nat)} {vm : Vm} {h h' : Heap} {L : Store} {b : Addr} {P P' : Cell → Prop} {c : Cell} (I : Inv Z EL vm h ((b, true, P) :: L)) (K : Keep h h' [b]) (hc : h'[b]? = some c) (hP : P' c) : Inv Z EL vm h' ((b, true, P') :: L) := by
  obtain ⟨h1, h2, h3, h4, h5⟩ := I
  have hs := (h4 _ (List.mem_cons_self ..) rfl)
  have hsafe : ∀ x ∈ [b], Safe Z EL vm h x := fun x hx => by cases List.mem_singleton.mp hx; exact hs.2
  rw [List.pairwise_cons] at h5
  refine ⟨⟨Nat.le_trans h1.1 K.1, fun x c q => K.2.1 x c (h1.2 x c q) fun hx => ?_⟩, h2.keep K hsafe, fun o ho => ?_, fun o ho q => ?_, List.pairwise_cons.mpr ⟨fun o ho q => h5.1 o ho q, h5.2⟩⟩
  · cases List.mem_singleton.mp hx
    exact absurd (Array.getElem?_eq_some_iff.mp q).1 (Nat.not_lt.mpr hs.1)
  · rcases List.mem_cons.mp ho with rfl | ho
    · exact ⟨c, hc, hP⟩
    · obtain ⟨c1, q1, q2⟩ := h3 o (List.mem_cons_of_mem _ ho)
      exact ⟨c1, K.2.1 _ _ q1 fun hx => h5.1 o ho (Or.inl rfl) (List.mem_singleton.mp hx).symm, q2⟩
  · rcases List.mem_cons.mp ho with rfl | ho
    · exact ⟨hs.1, Safe.keep K hsafe h2 hs.2⟩
    · have q2 := h4 o (List.mem_cons_of_mem _ ho) q
      exact ⟨q2.1, Safe.keep K hsafe h2 q2.2⟩
theorem arv_of_ar {Z : State} {h : Heap} {a : Addr} {ty : FieldType} {vs : List Value} {c : Cell} (d : Value) (hc : h[a]? = some c) (A : AR Z ty vs c) (hf : ∀ v ∈ vs, fits ty v = true) : Arv Z h a c.cls ty vs.length.toInt32 vs d := by
  refine ⟨c, A.arr hc, rfl, by rw [A.size, n32_nat A.2.2.2], n32_nn A.2.2.2, fun k hk => ?_, fun i hi => ?_⟩
  · rw [A.size] at hk
    rw [A.get (List.getElem?_eq_getElem hk), List.getD_eq_getElem?_getD, List.getElem?_eq_getElem hk]; rfl
  · rw [A.size] at hi
    rw [List.getD_eq_getElem?_getD, List.getElem?_eq_getElem hi]
    exact hf _ (List.getElem_mem hi)
theorem range_take {vs : List Value} {s n : Nat} {d : Value} (h : s + n ≤ vs.length) : ((List.range n).map fun i => vs.getD (s + i) d) = (vs.drop s).take n := by
  apply List.ext_getElem
  · simp; omega
  · intro i h1 h2
    simp only [List.length_map, List.length_range] at h1
    have : s + i < vs.length := by omega
    simp [List.getD_eq_getElem?_getD, List.getElem?_eq_getElem this]
section Rules4
variable {l : Launch} {Z : State} {a0 : Array Value} {EL : List (String × Nat)} {y : MethodName} {bytes : ByteArray} {mx : Nat} {ret : Option FieldType} {R : Room} {Q Q' : Option Value → Store → Prop} {L L0 L' : Store} {cb sb pc q q' : Nat} {Ls Ls' : List Slot} {St rest : List Value}
/-- System.arraycopy between two byte arrays -/
theorem Wk.arraycopyB {i : Nat} (W sN dN nN : Nat) (vs' : List Value) {sp dp nn : Int32} {a b : Addr} {fa : Bool} {va vd : List Value} (hd : decode bytes pc = .ok (.invokestatic i, 3)) (hq : pc + 3 = q) (w1 : (Jvm.Cond.methodLink y.cls i Jvm.Stand.acN).before a0 Z = true) (w2 : (Jvm.Cond.native Jvm.Stand.acN).before a0 Z = true) (w3 : (Jvm.Cond.static Jvm.Stand.acN).before a0 Z = true) (w4 : (Jvm.Cond.initialized "java/lang/System").before a0 Z = true)
    (hm : Ex L (b, true, AR Z .byte vd) L0) (ha : (a, fa, AR Z .byte va) ∈ L0) (hfa : ∀ v ∈ va, fits .byte v = true) (hfd : ∀ v ∈ vd, fits .byte v = true) (h1 : ¬ sp < 0 ∧ sp.toNatClampNeg = sN) (h2 : ¬ dp < 0 ∧ dp.toNatClampNeg = dN) (h3 : ¬ nn < 0 ∧ nn.toNatClampNeg = nN) (h4 : sN + nN ≤ va.length) (h5 : dN + nN ≤ vd.length) (hv : vd.take dN ++ (va.drop sN).take nN ++ vd.drop (dN + nN) = vs')
    (hz : Ls.length = mx) (hf : 1 ≤ R.frames) (hW : (St.map fun v => v.category).sum = W) (hlo : W + (nativeFrameWords "java/lang/System" "arraycopy" 5 + 11) ≤ R.locals) (k : Wk l Z a0 EL y bytes mx ret R Q ((b, true, AR Z .byte vs') :: L0) cb sb q Ls St) : Wk l Z a0 EL y bytes mx ret R Q L cb sb pc Ls (.int nn :: .int dp :: .ref b :: .int sp :: .ref a :: St) := by
  subst hq hv
  obtain ⟨h1, rfl⟩ := h1
  obtain ⟨h2, rfl⟩ := h2
  obtain ⟨h3, rfl⟩ := h3
  refine Wk.pull hm ?_
  intro p e s m args below meth c T vm0 k0 locs cells slots hx hby hmx hret hlk hnm hown X hS hk hZ hE hI hF hc hs
  obtain ⟨cd, d1, d2⟩ := hI.at_ (List.mem_cons_self ..)
  obtain ⟨cs, s1, s2⟩ := hI.at_ (List.mem_cons_of_mem _ ha)
  have A := arv_of_ar (.int 0) s1 s2 hfa
  have B := arv_of_ar (.int 0) d1 d2 hfd
  have la := n32_nat s2.2.2.2
  have ld := n32_nat d2.2.2.2
  obtain ⟨T', h', L2, X', rfl, N, K, B', st⟩ := cpA X hx hZ hown w1 w2 w3 w4 rfl A B (Or.inl ⟨rfl, rfl⟩) h1 h2 h3 (by rw [la]; exact h4) (by rw [ld]; exact h5) (range_take h4).symm h5 hF (hI.2.2.2.1 _ (List.mem_cons_self ..) rfl).1 (g := mkF m pc ⟨Ls⟩ (.int nn :: .int dp :: .ref b :: .int sp :: .ref a :: St)) rfl (by rw [hmx]; simpa using hz) rfl (hb hby hd) hf (W := W) (by show 2 * 0 + _ ≤ _; rw [hW]; omega) hlo
  obtain ⟨c', e1, e2⟩ := ar_of_arv B' (by rw [ld]; simp; omega)
  obtain ⟨fin, v, Lc, L', q1, r⟩ := k p e s m args below meth c T' vm0 k0 L2 cells slots hx hby hmx hret hlk hnm hown X' hS (Nat.le_trans hk K.1) hZ hE (hI.keep K e1 e2) N hc hs
  exact ⟨fin, v, Lc, L', st _ q1, r⟩
end Rules4
end Jvm.OwnW
namespace Jvm.Pilot.@@N@@
open Jvm Jvm.ClassFile Sem Op Lib Jvm.Free Jvm.Stand Jvm.LawKit Jvm.RoadKit Jvm.OwnW Bundle Jvm.Pilot.@@N@@.Jvm.D
abbrev EL0 : List (String × Nat) := consts_1
theorem wS {Z : State} {a0 : Array Value} (hw : ∀ d ∈ tables_1, d.before a0 Z = true) : ∀ a ∈ Bundle.stringAtoms, a.before a0 Z = true := by
  intro a ha
  simp only [Bundle.stringAtoms, Bundle.sN, List.mem_cons, List.not_mem_nil, or_false] at ha
  rcases ha with rfl | rfl | rfl | rfl | rfl | rfl | rfl
  · exact (hw _ (List.mem_of_getElem? (i := 9) rfl))
  · exact (hw _ (List.mem_of_getElem? (i := 8) rfl))
  · exact (hw _ (List.mem_of_getElem? (i := 21) rfl))
  · exact (hw _ (List.mem_of_getElem? (i := 22) rfl))
  · exact (hw _ (List.mem_of_getElem? (i := 23) rfl))
  · exact (hw _ (List.mem_of_getElem? (i := 24) rfl))
  · exact (hw _ (List.mem_of_getElem? (i := 25) rfl))
theorem d0_3 : decode jdk_52_method_21_code 3 = .ok (.iload 5, 2) := by decide +kernel
theorem d0_5 : decode jdk_52_method_21_code 5 = .ok (.iload 4, 2) := by decide +kernel
theorem d0_7 : decode jdk_52_method_21_code 7 = .ok (.if_icmp .ge 37, 3) := by decide +kernel
theorem d0_44 : decode jdk_52_method_21_code 44 = .ok (.iload 4, 2) := by decide +kernel
theorem d0_46 : decode jdk_52_method_21_code 46 = .ok (.ireturn, 1) := by decide +kernel
theorem d0_10 : decode jdk_52_method_21_code 10 = .ok (.aload_n 0, 1) := by decide +kernel
theorem d0_11 : decode jdk_52_method_21_code 11 = .ok (.iload_n 1, 1) := by decide +kernel
theorem d0_12 : decode jdk_52_method_21_code 12 = .ok (.caload, 1) := by decide +kernel
theorem d0_13 : decode jdk_52_method_21_code 13 = .ok (.istore 6, 2) := by decide +kernel
theorem d0_15 : decode jdk_52_method_21_code 15 = .ok (.iload 6, 2) := by decide +kernel
theorem d0_17 : decode jdk_52_method_21_code 17 = .ok (.sipush 255, 3) := by decide +kernel
theorem d0_20 : decode jdk_52_method_21_code 20 = .ok (.if_icmp .le 6, 3) := by decide +kernel
theorem d0_26 : decode jdk_52_method_21_code 26 = .ok (.aload_n 2, 1) := by decide +kernel
theorem d0_27 : decode jdk_52_method_21_code 27 = .ok (.iload_n 3, 1) := by decide +kernel
theorem d0_28 : decode jdk_52_method_21_code 28 = .ok (.iload 6, 2) := by decide +kernel
theorem d0_30 : decode jdk_52_method_21_code 30 = .ok (.i2b, 1) := by decide +kernel
theorem d0_31 : decode jdk_52_method_21_code 31 = .ok (.bastore, 1) := by decide +kernel
theorem d0_32 : decode jdk_52_method_21_code 32 = .ok (.iinc 1 1, 3) := by decide +kernel
theorem d0_35 : decode jdk_52_method_21_code 35 = .ok (.iinc 3 1, 3) := by decide +kernel
theorem d0_38 : decode jdk_52_method_21_code 38 = .ok (.iinc 5 1, 3) := by decide +kernel
theorem d0_41 : decode jdk_52_method_21_code 41 = .ok (.goto (-38), 3) := by decide +kernel
theorem ef_ririi_7 (m : MethodId) (x0 : Addr) (x1 : Int32) (x2 : Addr) (x3 : Int32) (x4 : Int32) : entryFrame m #[(.ref x0), (.int x1), (.ref x2), (.int x3), (.int x4)] 7 = mkF m 0 ⟨[.val (.ref x0), .val (.int x1), .val (.ref x2), .val (.int x3), .val (.int x4), .unset, .unset]⟩ [] := by exact efOf rfl
theorem pn_0 : plainName "java/lang/StringUTF16" = true := by first | (simp [plainName, overriddenIn]; done) | decide +kernel
theorem d0_0 : decode jdk_52_method_21_code 0 = .ok (.iconst 0, 1) := by decide +kernel
theorem d0_1 : decode jdk_52_method_21_code 1 = .ok (.istore 5, 2) := by decide +kernel
theorem ef_ri_2 (m : MethodId) (x0 : Addr) (x1 : Int32) : entryFrame m #[(.ref x0), (.int x1)] 2 = mkF m 0 ⟨[.val (.ref x0), .val (.int x1)]⟩ [] := by exact efOf rfl
theorem d1_0 : decode jdk_52_method_15_code 0 = .ok (.iload_n 1, 1) := by decide +kernel
theorem d1_1 : decode jdk_52_method_15_code 1 = .ok (.aload_n 0, 1) := by decide +kernel
theorem d1_2 : decode jdk_52_method_15_code 2 = .ok (.arraylength, 1) := by decide +kernel
theorem d1_3 : decode jdk_52_method_15_code 3 = .ok (.isub, 1) := by decide +kernel
theorem d1_4 : decode jdk_52_method_15_code 4 = .ok (.bipush 31, 2) := by decide +kernel
theorem d1_6 : decode jdk_52_method_15_code 6 = .ok (.iushr, 1) := by decide +kernel
theorem d1_7 : decode jdk_52_method_15_code 7 = .ok (.i2b, 1) := by decide +kernel
theorem d1_8 : decode jdk_52_method_15_code 8 = .ok (.ireturn, 1) := by decide +kernel
theorem ef_rii_6 (m : MethodId) (x0 : Addr) (x1 : Int32) (x2 : Int32) : entryFrame m #[(.ref x0), (.int x1), (.int x2)] 6 = mkF m 0 ⟨[.val (.ref x0), .val (.int x1), .val (.int x2), .unset, .unset, .unset]⟩ [] := by exact efOf rfl
theorem d2_0 : decode jdk_52_method_16_code 0 = .ok (.iload_n 2, 1) := by decide +kernel
theorem d2_1 : decode jdk_52_method_16_code 1 = .ok (.newarray .byte, 2) := by decide +kernel
theorem d2_3 : decode jdk_52_method_16_code 3 = .ok (.astore_n 3, 1) := by decide +kernel
theorem d2_4 : decode jdk_52_method_16_code 4 = .ok (.aload_n 0, 1) := by decide +kernel
theorem d2_5 : decode jdk_52_method_16_code 5 = .ok (.iload_n 1, 1) := by decide +kernel
theorem d2_6 : decode jdk_52_method_16_code 6 = .ok (.aload_n 3, 1) := by decide +kernel
theorem d2_7 : decode jdk_52_method_16_code 7 = .ok (.iconst 0, 1) := by decide +kernel
theorem d2_8 : decode jdk_52_method_16_code 8 = .ok (.iload_n 2, 1) := by decide +kernel
theorem d2_9 : decode jdk_52_method_16_code 9 = .ok (.invokestatic 115, 3) := by decide +kernel
theorem ar_0 : XT.arity "([CI[BII)I" = some 5 := by decide +kernel
theorem d2_12 : decode jdk_52_method_16_code 12 = .ok (.istore 4, 2) := by decide +kernel
theorem d2_14 : decode jdk_52_method_16_code 14 = .ok (.iload 4, 2) := by decide +kernel
theorem d2_16 : decode jdk_52_method_16_code 16 = .ok (.iload_n 2, 1) := by decide +kernel
theorem d2_17 : decode jdk_52_method_16_code 17 = .ok (.if_icmp .eq 40, 3) := by decide +kernel
theorem d2_57 : decode jdk_52_method_16_code 57 = .ok (.aload_n 3, 1) := by decide +kernel
theorem d2_58 : decode jdk_52_method_16_code 58 = .ok (.areturn, 1) := by decide +kernel
theorem ef_rriin_6 (m : MethodId) (x0 : Addr) (x1 : Addr) (x2 : Int32) (x3 : Int32) : entryFrame m #[(.ref x0), (.ref x1), (.int x2), (.int x3), .null] 6 = mkF m 0 ⟨[.val (.ref x0), .val (.ref x1), .val (.int x2), .val (.int x3), .val .null, .unset]⟩ [] := by exact efOf rfl
theorem pn_1 : plainName "java/lang/String" = true := by first | (simp [plainName, overriddenIn]; done) | decide +kernel
theorem d3_0 : decode jdk_42_method_149_code 0 = .ok (.aload_n 0, 1) := by decide +kernel
theorem d3_1 : decode jdk_42_method_149_code 1 = .ok (.invokespecial 1, 3) := by decide +kernel
theorem d3_4 : decode jdk_42_method_149_code 4 = .ok (.iload_n 3, 1) := by decide +kernel
theorem d3_5 : decode jdk_42_method_149_code 5 = .ok (.ifCond .ne 22, 3) := by decide +kernel
theorem d3_27 : decode jdk_42_method_149_code 27 = .ok (.getstatic 38, 3) := by decide +kernel
theorem d3_30 : decode jdk_42_method_149_code 30 = .ok (.ifCond .eq 28, 3) := by decide +kernel
theorem d3_33 : decode jdk_42_method_149_code 33 = .ok (.aload_n 1, 1) := by decide +kernel
theorem d3_34 : decode jdk_42_method_149_code 34 = .ok (.iload_n 2, 1) := by decide +kernel
theorem d3_35 : decode jdk_42_method_149_code 35 = .ok (.iload_n 3, 1) := by decide +kernel
theorem d3_36 : decode jdk_42_method_149_code 36 = .ok (.invokestatic 177, 3) := by decide +kernel
theorem ar_1 : XT.arity "([CII)[B" = some 3 := by decide +kernel
theorem d3_39 : decode jdk_42_method_149_code 39 = .ok (.astore 5, 2) := by decide +kernel
theorem d3_41 : decode jdk_42_method_149_code 41 = .ok (.aload_n 0, 1) := by decide +kernel
theorem d3_42 : decode jdk_42_method_149_code 42 = .ok (.aload 5, 2) := by decide +kernel
theorem d3_44 : decode jdk_42_method_149_code 44 = .ok (.iload_n 3, 1) := by decide +kernel
theorem d3_45 : decode jdk_42_method_149_code 45 = .ok (.invokestatic 47, 3) := by decide +kernel
theorem ar_2 : XT.arity "([BI)B" = some 2 := by decide +kernel
theorem d3_48 : decode jdk_42_method_149_code 48 = .ok (.putfield 15, 3) := by decide +kernel
theorem d3_51 : decode jdk_42_method_149_code 51 = .ok (.aload_n 0, 1) := by decide +kernel
theorem d3_52 : decode jdk_42_method_149_code 52 = .ok (.aload 5, 2) := by decide +kernel
theorem d3_54 : decode jdk_42_method_149_code 54 = .ok (.putfield 9, 3) := by decide +kernel
theorem d3_57 : decode jdk_42_method_149_code 57 = .ok (.return_, 1) := by decide +kernel
theorem ef_rr_2 (m : MethodId) (x0 : Addr) (x1 : Addr) : entryFrame m #[(.ref x0), (.ref x1)] 2 = mkF m 0 ⟨[.val (.ref x0), .val (.ref x1)]⟩ [] := by exact efOf rfl
theorem d4_0 : decode jdk_42_method_3_code 0 = .ok (.aload_n 0, 1) := by decide +kernel
theorem d4_1 : decode jdk_42_method_3_code 1 = .ok (.aload_n 1, 1) := by decide +kernel
theorem d4_2 : decode jdk_42_method_3_code 2 = .ok (.iconst 0, 1) := by decide +kernel
theorem d4_3 : decode jdk_42_method_3_code 3 = .ok (.aload_n 1, 1) := by decide +kernel
theorem d4_4 : decode jdk_42_method_3_code 4 = .ok (.arraylength, 1) := by decide +kernel
theorem d4_5 : decode jdk_42_method_3_code 5 = .ok (.aconst_null, 1) := by decide +kernel
theorem d4_6 : decode jdk_42_method_3_code 6 = .ok (.invokespecial 27, 3) := by decide +kernel
theorem ar_3 : XT.arity "([CIILjava/lang/Void;)V" = some 4 := by decide +kernel
theorem d4_9 : decode jdk_42_method_3_code 9 = .ok (.return_, 1) := by decide +kernel
theorem d3_8 : decode jdk_42_method_149_code 8 = .ok (.aload_n 0, 1) := by decide +kernel
theorem d3_9 : decode jdk_42_method_149_code 9 = .ok (.ldc 7, 2) := by decide +kernel
theorem d3_11 : decode jdk_42_method_149_code 11 = .ok (.getfield 9, 3) := by decide +kernel
theorem d3_14 : decode jdk_42_method_149_code 14 = .ok (.putfield 9, 3) := by decide +kernel
theorem d3_17 : decode jdk_42_method_149_code 17 = .ok (.aload_n 0, 1) := by decide +kernel
theorem d3_18 : decode jdk_42_method_149_code 18 = .ok (.ldc 7, 2) := by decide +kernel
theorem d3_20 : decode jdk_42_method_149_code 20 = .ok (.getfield 15, 3) := by decide +kernel
theorem d3_23 : decode jdk_42_method_149_code 23 = .ok (.putfield 15, 3) := by decide +kernel
theorem d3_26 : decode jdk_42_method_149_code 26 = .ok (.return_, 1) := by decide +kernel
theorem ef_i_1 (m : MethodId) (x0 : Int32) : entryFrame m #[(.int x0)] 1 = mkF m 0 ⟨[.val (.int x0)]⟩ [] := by exact efOf rfl
theorem d5_0 : decode jdk_52_method_3_code 0 = .ok (.iload_n 0, 1) := by decide +kernel
theorem d5_1 : decode jdk_52_method_3_code 1 = .ok (.ifCond .ge 11, 3) := by decide +kernel
theorem d5_12 : decode jdk_52_method_3_code 12 = .ok (.iload_n 0, 1) := by decide +kernel
theorem d5_13 : decode jdk_52_method_3_code 13 = .ok (.ldc 20, 2) := by decide +kernel
theorem d5_15 : decode jdk_52_method_3_code 15 = .ok (.if_icmp .lt 40, 3) := by decide +kernel
theorem d5_55 : decode jdk_52_method_3_code 55 = .ok (.iload_n 0, 1) := by decide +kernel
theorem d5_56 : decode jdk_52_method_3_code 56 = .ok (.iconst 1, 1) := by decide +kernel
theorem d5_57 : decode jdk_52_method_3_code 57 = .ok (.ishl, 1) := by decide +kernel
theorem d5_58 : decode jdk_52_method_3_code 58 = .ok (.ireturn, 1) := by decide +kernel
theorem d6_0 : decode jdk_52_method_2_code 0 = .ok (.iload_n 0, 1) := by decide +kernel
theorem d6_1 : decode jdk_52_method_2_code 1 = .ok (.invokestatic 11, 3) := by decide +kernel
theorem ar_4 : XT.arity "(I)I" = some 1 := by decide +kernel
theorem d6_4 : decode jdk_52_method_2_code 4 = .ok (.newarray .byte, 2) := by decide +kernel
theorem d6_6 : decode jdk_52_method_2_code 6 = .ok (.areturn, 1) := by decide +kernel
theorem ef_rii_3 (m : MethodId) (x0 : Addr) (x1 : Int32) (x2 : Int32) : entryFrame m #[(.ref x0), (.int x1), (.int x2)] 3 = mkF m 0 ⟨[.val (.ref x0), .val (.int x1), .val (.int x2)]⟩ [] := by exact efOf rfl
theorem d7_0 : decode jdk_52_method_4_code 0 = .ok (.getstatic 44, 3) := by decide +kernel
theorem d7_3 : decode jdk_52_method_4_code 3 = .ok (.ifCond .ne 25, 3) := by decide +kernel
theorem d7_28 : decode jdk_52_method_4_code 28 = .ok (.iload_n 1, 1) := by decide +kernel
theorem d7_29 : decode jdk_52_method_4_code 29 = .ok (.iconst 1, 1) := by decide +kernel
theorem d7_30 : decode jdk_52_method_4_code 30 = .ok (.ishl, 1) := by decide +kernel
theorem d7_31 : decode jdk_52_method_4_code 31 = .ok (.istore_n 1, 1) := by decide +kernel
theorem d7_32 : decode jdk_52_method_4_code 32 = .ok (.aload_n 0, 1) := by decide +kernel
theorem d7_33 : decode jdk_52_method_4_code 33 = .ok (.iload_n 1, 1) := by decide +kernel
theorem d7_34 : decode jdk_52_method_4_code 34 = .ok (.iinc 1 1, 3) := by decide +kernel
theorem d7_37 : decode jdk_52_method_4_code 37 = .ok (.iload_n 2, 1) := by decide +kernel
theorem d7_38 : decode jdk_52_method_4_code 38 = .ok (.getstatic 59, 3) := by decide +kernel
theorem d7_41 : decode jdk_52_method_4_code 41 = .ok (.ishr, 1) := by decide +kernel
theorem d7_42 : decode jdk_52_method_4_code 42 = .ok (.i2b, 1) := by decide +kernel
theorem d7_43 : decode jdk_52_method_4_code 43 = .ok (.bastore, 1) := by decide +kernel
theorem d7_44 : decode jdk_52_method_4_code 44 = .ok (.aload_n 0, 1) := by decide +kernel
theorem d7_45 : decode jdk_52_method_4_code 45 = .ok (.iload_n 1, 1) := by decide +kernel
theorem d7_46 : decode jdk_52_method_4_code 46 = .ok (.iload_n 2, 1) := by decide +kernel
theorem d7_47 : decode jdk_52_method_4_code 47 = .ok (.getstatic 63, 3) := by decide +kernel
theorem d7_50 : decode jdk_52_method_4_code 50 = .ok (.ishr, 1) := by decide +kernel
theorem d7_51 : decode jdk_52_method_4_code 51 = .ok (.i2b, 1) := by decide +kernel
theorem d7_52 : decode jdk_52_method_4_code 52 = .ok (.bastore, 1) := by decide +kernel
theorem d7_53 : decode jdk_52_method_4_code 53 = .ok (.return_, 1) := by decide +kernel
theorem d8_0 : decode jdk_52_method_5_code 0 = .ok (.getstatic 44, 3) := by decide +kernel
theorem d8_3 : decode jdk_52_method_5_code 3 = .ok (.ifCond .ne 25, 3) := by decide +kernel
theorem d8_28 : decode jdk_52_method_5_code 28 = .ok (.iload_n 1, 1) := by decide +kernel
theorem d8_29 : decode jdk_52_method_5_code 29 = .ok (.iconst 1, 1) := by decide +kernel
theorem d8_30 : decode jdk_52_method_5_code 30 = .ok (.ishl, 1) := by decide +kernel
theorem d8_31 : decode jdk_52_method_5_code 31 = .ok (.istore_n 1, 1) := by decide +kernel
theorem d8_32 : decode jdk_52_method_5_code 32 = .ok (.aload_n 0, 1) := by decide +kernel
theorem d8_33 : decode jdk_52_method_5_code 33 = .ok (.iload_n 1, 1) := by decide +kernel
theorem d8_34 : decode jdk_52_method_5_code 34 = .ok (.iinc 1 1, 3) := by decide +kernel
theorem d8_37 : decode jdk_52_method_5_code 37 = .ok (.baload, 1) := by decide +kernel
theorem d8_38 : decode jdk_52_method_5_code 38 = .ok (.sipush 255, 3) := by decide +kernel
theorem d8_41 : decode jdk_52_method_5_code 41 = .ok (.iand, 1) := by decide +kernel
theorem d8_42 : decode jdk_52_method_5_code 42 = .ok (.getstatic 59, 3) := by decide +kernel
theorem d8_45 : decode jdk_52_method_5_code 45 = .ok (.ishl, 1) := by decide +kernel
theorem d8_46 : decode jdk_52_method_5_code 46 = .ok (.aload_n 0, 1) := by decide +kernel
theorem d8_47 : decode jdk_52_method_5_code 47 = .ok (.iload_n 1, 1) := by decide +kernel
theorem d8_48 : decode jdk_52_method_5_code 48 = .ok (.baload, 1) := by decide +kernel
theorem d8_49 : decode jdk_52_method_5_code 49 = .ok (.sipush 255, 3) := by decide +kernel
theorem d8_52 : decode jdk_52_method_5_code 52 = .ok (.iand, 1) := by decide +kernel
theorem d8_53 : decode jdk_52_method_5_code 53 = .ok (.getstatic 63, 3) := by decide +kernel
theorem d8_56 : decode jdk_52_method_5_code 56 = .ok (.ishl, 1) := by decide +kernel
theorem d8_57 : decode jdk_52_method_5_code 57 = .ok (.ior, 1) := by decide +kernel
theorem d8_58 : decode jdk_52_method_5_code 58 = .ok (.i2c, 1) := by decide +kernel
theorem d8_59 : decode jdk_52_method_5_code 59 = .ok (.ireturn, 1) := by decide +kernel
theorem d9_8 : decode jdk_52_method_14_code 8 = .ok (.iload 4, 2) := by decide +kernel
theorem d9_10 : decode jdk_52_method_14_code 10 = .ok (.iload_n 2, 1) := by decide +kernel
theorem d9_11 : decode jdk_52_method_14_code 11 = .ok (.if_icmp .ge 21, 3) := by decide +kernel
theorem d9_32 : decode jdk_52_method_14_code 32 = .ok (.aload_n 3, 1) := by decide +kernel
theorem d9_33 : decode jdk_52_method_14_code 33 = .ok (.areturn, 1) := by decide +kernel
theorem d9_14 : decode jdk_52_method_14_code 14 = .ok (.aload_n 3, 1) := by decide +kernel
theorem d9_15 : decode jdk_52_method_14_code 15 = .ok (.iload 4, 2) := by decide +kernel
theorem d9_17 : decode jdk_52_method_14_code 17 = .ok (.aload_n 0, 1) := by decide +kernel
theorem d9_18 : decode jdk_52_method_14_code 18 = .ok (.iload_n 1, 1) := by decide +kernel
theorem d9_19 : decode jdk_52_method_14_code 19 = .ok (.caload, 1) := by decide +kernel
theorem d9_20 : decode jdk_52_method_14_code 20 = .ok (.invokestatic 111, 3) := by decide +kernel
theorem ar_5 : XT.arity "([BII)V" = some 3 := by decide +kernel
theorem d9_23 : decode jdk_52_method_14_code 23 = .ok (.iinc 1 1, 3) := by decide +kernel
theorem d9_26 : decode jdk_52_method_14_code 26 = .ok (.iinc 4 1, 3) := by decide +kernel
theorem d9_29 : decode jdk_52_method_14_code 29 = .ok (.goto (-21), 3) := by decide +kernel
theorem ef_rii_5 (m : MethodId) (x0 : Addr) (x1 : Int32) (x2 : Int32) : entryFrame m #[(.ref x0), (.int x1), (.int x2)] 5 = mkF m 0 ⟨[.val (.ref x0), .val (.int x1), .val (.int x2), .unset, .unset]⟩ [] := by exact efOf rfl
theorem d9_0 : decode jdk_52_method_14_code 0 = .ok (.iload_n 2, 1) := by decide +kernel
theorem d9_1 : decode jdk_52_method_14_code 1 = .ok (.invokestatic 107, 3) := by decide +kernel
theorem ar_6 : XT.arity "(I)[B" = some 1 := by decide +kernel
theorem d9_4 : decode jdk_52_method_14_code 4 = .ok (.astore_n 3, 1) := by decide +kernel
theorem d9_5 : decode jdk_52_method_14_code 5 = .ok (.iconst 0, 1) := by decide +kernel
theorem d9_6 : decode jdk_52_method_14_code 6 = .ok (.istore 4, 2) := by decide +kernel
theorem d0_23 : decode jdk_52_method_21_code 23 = .ok (.iload 5, 2) := by decide +kernel
theorem d0_25 : decode jdk_52_method_21_code 25 = .ok (.ireturn, 1) := by decide +kernel
theorem d2_20 : decode jdk_52_method_16_code 20 = .ok (.aload_n 0, 1) := by decide +kernel
theorem d2_21 : decode jdk_52_method_16_code 21 = .ok (.iload_n 1, 1) := by decide +kernel
theorem d2_22 : decode jdk_52_method_16_code 22 = .ok (.iload_n 2, 1) := by decide +kernel
theorem d2_23 : decode jdk_52_method_16_code 23 = .ok (.invokestatic 119, 3) := by decide +kernel
theorem d2_26 : decode jdk_52_method_16_code 26 = .ok (.astore 5, 2) := by decide +kernel
theorem d2_28 : decode jdk_52_method_16_code 28 = .ok (.aload 5, 2) := by decide +kernel
theorem d2_30 : decode jdk_52_method_16_code 30 = .ok (.iload 4, 2) := by decide +kernel
theorem d2_32 : decode jdk_52_method_16_code 32 = .ok (.invokestatic 71, 3) := by decide +kernel
theorem ar_7 : XT.arity "([BI)C" = some 2 := by decide +kernel
theorem d2_35 : decode jdk_52_method_16_code 35 = .ok (.sipush 255, 3) := by decide +kernel
theorem d2_38 : decode jdk_52_method_16_code 38 = .ok (.if_icmp .gt 16, 3) := by decide +kernel
theorem d2_54 : decode jdk_52_method_16_code 54 = .ok (.aload 5, 2) := by decide +kernel
theorem d2_56 : decode jdk_52_method_16_code 56 = .ok (.areturn, 1) := by decide +kernel
theorem ef_r_1 (m : MethodId) (x0 : Addr) : entryFrame m #[(.ref x0)] 1 = mkF m 0 ⟨[.val (.ref x0)]⟩ [] := by exact efOf rfl
theorem d10_0 : decode jdk_42_method_152_code 0 = .ok (.getstatic 38, 3) := by decide +kernel
theorem d10_3 : decode jdk_42_method_152_code 3 = .ok (.ifCond .eq 10, 3) := by decide +kernel
theorem d10_6 : decode jdk_42_method_152_code 6 = .ok (.aload_n 0, 1) := by decide +kernel
theorem d10_7 : decode jdk_42_method_152_code 7 = .ok (.getfield 15, 3) := by decide +kernel
theorem d10_10 : decode jdk_42_method_152_code 10 = .ok (.goto 4, 3) := by decide +kernel
theorem d10_14 : decode jdk_42_method_152_code 14 = .ok (.ireturn, 1) := by decide +kernel
theorem d11_0 : decode jdk_42_method_54_code 0 = .ok (.aload_n 0, 1) := by decide +kernel
theorem d11_1 : decode jdk_42_method_54_code 1 = .ok (.getfield 9, 3) := by decide +kernel
theorem d11_4 : decode jdk_42_method_54_code 4 = .ok (.arraylength, 1) := by decide +kernel
theorem d11_5 : decode jdk_42_method_54_code 5 = .ok (.aload_n 0, 1) := by decide +kernel
theorem d11_6 : decode jdk_42_method_54_code 6 = .ok (.invokevirtual 335, 3) := by decide +kernel
theorem ar_8 : XT.arity "()B" = some 0 := by decide +kernel
theorem d11_9 : decode jdk_42_method_54_code 9 = .ok (.ishr, 1) := by decide +kernel
theorem d11_10 : decode jdk_42_method_54_code 10 = .ok (.ireturn, 1) := by decide +kernel
theorem d12_0 : decode jdk_42_method_154_code 0 = .ok (.getstatic 38, 3) := by decide +kernel
theorem d12_3 : decode jdk_42_method_154_code 3 = .ok (.ifCond .eq 14, 3) := by decide +kernel
theorem d12_6 : decode jdk_42_method_154_code 6 = .ok (.aload_n 0, 1) := by decide +kernel
theorem d12_7 : decode jdk_42_method_154_code 7 = .ok (.getfield 15, 3) := by decide +kernel
theorem d12_10 : decode jdk_42_method_154_code 10 = .ok (.ifCond .ne 7, 3) := by decide +kernel
theorem d12_13 : decode jdk_42_method_154_code 13 = .ok (.iconst 1, 1) := by decide +kernel
theorem d12_14 : decode jdk_42_method_154_code 14 = .ok (.goto 4, 3) := by decide +kernel
theorem d12_18 : decode jdk_42_method_154_code 18 = .ok (.ireturn, 1) := by decide +kernel
theorem d12_17 : decode jdk_42_method_154_code 17 = .ok (.iconst 0, 1) := by decide +kernel
theorem ef_iiv_3 (m : MethodId) (x0 : Int32) (x1 : Int32) (x2 : Value) (h2 : x2.isRef = true) : entryFrame m #[(.int x0), (.int x1), x2] 3 = mkF m 0 ⟨[.val (.int x0), .val (.int x1), .val x2]⟩ [] := by rcases XT.refc h2 with rfl | ⟨_, rfl⟩ <;> exact efOf rfl
theorem pn_2 : plainName "jdk/internal/util/Preconditions" = true := by first | (simp [plainName, overriddenIn]; done) | decide +kernel
theorem d13_0 : decode jdk_41_method_11_code 0 = .ok (.iload_n 0, 1) := by decide +kernel
theorem d13_1 : decode jdk_41_method_11_code 1 = .ok (.ifCond .lt 8, 3) := by decide +kernel
theorem d13_4 : decode jdk_41_method_11_code 4 = .ok (.iload_n 0, 1) := by decide +kernel
theorem d13_5 : decode jdk_41_method_11_code 5 = .ok (.iload_n 1, 1) := by decide +kernel
theorem d13_6 : decode jdk_41_method_11_code 6 = .ok (.if_icmp .lt 10, 3) := by decide +kernel
theorem d13_16 : decode jdk_41_method_11_code 16 = .ok (.iload_n 0, 1) := by decide +kernel
theorem d13_17 : decode jdk_41_method_11_code 17 = .ok (.ireturn, 1) := by decide +kernel
theorem ef_ii_2 (m : MethodId) (x0 : Int32) (x1 : Int32) : entryFrame m #[(.int x0), (.int x1)] 2 = mkF m 0 ⟨[.val (.int x0), .val (.int x1)]⟩ [] := by exact efOf rfl
theorem d14_0 : decode jdk_42_method_155_code 0 = .ok (.iload_n 0, 1) := by decide +kernel
theorem d14_1 : decode jdk_42_method_155_code 1 = .ok (.iload_n 1, 1) := by decide +kernel
theorem d14_2 : decode jdk_42_method_155_code 2 = .ok (.getstatic 1053, 3) := by decide +kernel
theorem d14_5 : decode jdk_42_method_155_code 5 = .ok (.invokestatic 1059, 3) := by decide +kernel
theorem ar_9 : XT.arity "(IILjava/util/function/BiFunction;)I" = some 3 := by decide +kernel
theorem d14_8 : decode jdk_42_method_155_code 8 = .ok (.pop, 1) := by decide +kernel
theorem d14_9 : decode jdk_42_method_155_code 9 = .ok (.return_, 1) := by decide +kernel
theorem pn_3 : plainName "java/lang/StringLatin1" = true := by first | (simp [plainName, overriddenIn]; done) | decide +kernel
theorem d15_0 : decode jdk_43_method_2_code 0 = .ok (.iload_n 1, 1) := by decide +kernel
theorem d15_1 : decode jdk_43_method_2_code 1 = .ok (.aload_n 0, 1) := by decide +kernel
theorem d15_2 : decode jdk_43_method_2_code 2 = .ok (.arraylength, 1) := by decide +kernel
theorem d15_3 : decode jdk_43_method_2_code 3 = .ok (.invokestatic 9, 3) := by decide +kernel
theorem ar_10 : XT.arity "(II)V" = some 2 := by decide +kernel
theorem d15_6 : decode jdk_43_method_2_code 6 = .ok (.aload_n 0, 1) := by decide +kernel
theorem d15_7 : decode jdk_43_method_2_code 7 = .ok (.iload_n 1, 1) := by decide +kernel
theorem d15_8 : decode jdk_43_method_2_code 8 = .ok (.baload, 1) := by decide +kernel
theorem d15_9 : decode jdk_43_method_2_code 9 = .ok (.sipush 255, 3) := by decide +kernel
theorem d15_12 : decode jdk_43_method_2_code 12 = .ok (.iand, 1) := by decide +kernel
theorem d15_13 : decode jdk_43_method_2_code 13 = .ok (.i2c, 1) := by decide +kernel
theorem d15_14 : decode jdk_43_method_2_code 14 = .ok (.ireturn, 1) := by decide +kernel
theorem d16_0 : decode jdk_42_method_56_code 0 = .ok (.aload_n 0, 1) := by decide +kernel
theorem d16_1 : decode jdk_42_method_56_code 1 = .ok (.invokevirtual 492, 3) := by decide +kernel
theorem ar_11 : XT.arity "()Z" = some 0 := by decide +kernel
theorem d16_4 : decode jdk_42_method_56_code 4 = .ok (.ifCond .eq 12, 3) := by decide +kernel
theorem d16_7 : decode jdk_42_method_56_code 7 = .ok (.aload_n 0, 1) := by decide +kernel
theorem d16_8 : decode jdk_42_method_56_code 8 = .ok (.getfield 9, 3) := by decide +kernel
theorem d16_11 : decode jdk_42_method_56_code 11 = .ok (.iload_n 1, 1) := by decide +kernel
theorem d16_12 : decode jdk_42_method_56_code 12 = .ok (.invokestatic 495, 3) := by decide +kernel
theorem d16_15 : decode jdk_42_method_56_code 15 = .ok (.ireturn, 1) := by decide +kernel
theorem d17_0 : decode jdk_52_method_6_code 0 = .ok (.aload_n 0, 1) := by decide +kernel
theorem d17_1 : decode jdk_52_method_6_code 1 = .ok (.arraylength, 1) := by decide +kernel
theorem d17_2 : decode jdk_52_method_6_code 2 = .ok (.iconst 1, 1) := by decide +kernel
theorem d17_3 : decode jdk_52_method_6_code 3 = .ok (.ishr, 1) := by decide +kernel
theorem d17_4 : decode jdk_52_method_6_code 4 = .ok (.ireturn, 1) := by decide +kernel
theorem ef_ir_2 (m : MethodId) (x0 : Int32) (x1 : Addr) : entryFrame m #[(.int x0), (.ref x1)] 2 = mkF m 0 ⟨[.val (.int x0), .val (.ref x1)]⟩ [] := by exact efOf rfl
theorem d18_0 : decode jdk_52_method_91_code 0 = .ok (.iload_n 0, 1) := by decide +kernel
theorem d18_1 : decode jdk_52_method_91_code 1 = .ok (.aload_n 1, 1) := by decide +kernel
theorem d18_2 : decode jdk_52_method_91_code 2 = .ok (.invokestatic 48, 3) := by decide +kernel
theorem ar_12 : XT.arity "([B)I" = some 1 := by decide +kernel
theorem d18_5 : decode jdk_52_method_91_code 5 = .ok (.invokestatic 414, 3) := by decide +kernel
theorem d18_8 : decode jdk_52_method_91_code 8 = .ok (.return_, 1) := by decide +kernel
theorem d19_0 : decode jdk_52_method_83_code 0 = .ok (.iload_n 1, 1) := by decide +kernel
theorem d19_1 : decode jdk_52_method_83_code 1 = .ok (.aload_n 0, 1) := by decide +kernel
theorem d19_2 : decode jdk_52_method_83_code 2 = .ok (.invokestatic 67, 3) := by decide +kernel
theorem ar_13 : XT.arity "(I[B)V" = some 2 := by decide +kernel
theorem d19_5 : decode jdk_52_method_83_code 5 = .ok (.aload_n 0, 1) := by decide +kernel
theorem d19_6 : decode jdk_52_method_83_code 6 = .ok (.iload_n 1, 1) := by decide +kernel
theorem d19_7 : decode jdk_52_method_83_code 7 = .ok (.invokestatic 71, 3) := by decide +kernel
theorem d19_10 : decode jdk_52_method_83_code 10 = .ok (.ireturn, 1) := by decide +kernel
theorem d16_16 : decode jdk_42_method_56_code 16 = .ok (.aload_n 0, 1) := by decide +kernel
theorem d16_17 : decode jdk_42_method_56_code 17 = .ok (.getfield 9, 3) := by decide +kernel
theorem d16_20 : decode jdk_42_method_56_code 20 = .ok (.iload_n 1, 1) := by decide +kernel
theorem d16_21 : decode jdk_42_method_56_code 21 = .ok (.invokestatic 498, 3) := by decide +kernel
theorem d16_24 : decode jdk_42_method_56_code 24 = .ok (.ireturn, 1) := by decide +kernel
theorem pn_4 : plainName "com/example/soapwright/soapwright/envelope/XmlText" = true := by first | (simp [plainName, overriddenIn]; done) | decide +kernel
theorem d20_54 : decode prog_23_method_4_code 54 = .ok (.iconst 1, 1) := by decide +kernel
theorem d20_55 : decode prog_23_method_4_code 55 = .ok (.goto 4, 3) := by decide +kernel
theorem d20_59 : decode prog_23_method_4_code 59 = .ok (.ireturn, 1) := by decide +kernel
theorem d20_58 : decode prog_23_method_4_code 58 = .ok (.iconst 0, 1) := by decide +kernel
theorem d20_0 : decode prog_23_method_4_code 0 = .ok (.iload_n 0, 1) := by decide +kernel
theorem d20_1 : decode prog_23_method_4_code 1 = .ok (.bipush 9, 2) := by decide +kernel
theorem d20_3 : decode prog_23_method_4_code 3 = .ok (.if_icmp .eq 51, 3) := by decide +kernel
theorem d20_6 : decode prog_23_method_4_code 6 = .ok (.iload_n 0, 1) := by decide +kernel
theorem d20_7 : decode prog_23_method_4_code 7 = .ok (.bipush 10, 2) := by decide +kernel
theorem d20_9 : decode prog_23_method_4_code 9 = .ok (.if_icmp .eq 45, 3) := by decide +kernel
theorem d20_12 : decode prog_23_method_4_code 12 = .ok (.iload_n 0, 1) := by decide +kernel
theorem d20_13 : decode prog_23_method_4_code 13 = .ok (.bipush 13, 2) := by decide +kernel
theorem d20_15 : decode prog_23_method_4_code 15 = .ok (.if_icmp .eq 39, 3) := by decide +kernel
theorem d20_42 : decode prog_23_method_4_code 42 = .ok (.iload_n 0, 1) := by decide +kernel
theorem d20_43 : decode prog_23_method_4_code 43 = .ok (.ldc 54, 2) := by decide +kernel
theorem d20_45 : decode prog_23_method_4_code 45 = .ok (.if_icmp .lt 13, 3) := by decide +kernel
theorem d20_48 : decode prog_23_method_4_code 48 = .ok (.iload_n 0, 1) := by decide +kernel
theorem d20_49 : decode prog_23_method_4_code 49 = .ok (.ldc 55, 2) := by decide +kernel
theorem d20_51 : decode prog_23_method_4_code 51 = .ok (.if_icmp .gt 7, 3) := by decide +kernel
theorem d20_30 : decode prog_23_method_4_code 30 = .ok (.iload_n 0, 1) := by decide +kernel
theorem d20_31 : decode prog_23_method_4_code 31 = .ok (.ldc 53, 2) := by decide +kernel
theorem d20_33 : decode prog_23_method_4_code 33 = .ok (.if_icmp .lt 9, 3) := by decide +kernel
theorem d20_36 : decode prog_23_method_4_code 36 = .ok (.iload_n 0, 1) := by decide +kernel
theorem d20_37 : decode prog_23_method_4_code 37 = .ok (.ldc 43, 2) := by decide +kernel
theorem d20_39 : decode prog_23_method_4_code 39 = .ok (.if_icmp .le 15, 3) := by decide +kernel
theorem d20_18 : decode prog_23_method_4_code 18 = .ok (.iload_n 0, 1) := by decide +kernel
theorem d20_19 : decode prog_23_method_4_code 19 = .ok (.bipush 32, 2) := by decide +kernel
theorem d20_21 : decode prog_23_method_4_code 21 = .ok (.if_icmp .lt 9, 3) := by decide +kernel
theorem d20_24 : decode prog_23_method_4_code 24 = .ok (.iload_n 0, 1) := by decide +kernel
theorem d20_25 : decode prog_23_method_4_code 25 = .ok (.ldc 52, 2) := by decide +kernel
theorem d20_27 : decode prog_23_method_4_code 27 = .ok (.if_icmp .le 27, 3) := by decide +kernel
theorem pn_5 : plainName "com/example/soapwright/soapwright/envelope/XmlTextFirstUnwritablePinLaw" = true := by first | (simp [plainName, overriddenIn]; done) | decide +kernel
theorem d21_42 : decode method_4_code 42 = .ok (.iconst 1, 1) := by decide +kernel
theorem d21_43 : decode method_4_code 43 = .ok (.goto 4, 3) := by decide +kernel
theorem d21_47 : decode method_4_code 47 = .ok (.ireturn, 1) := by decide +kernel
theorem d21_46 : decode method_4_code 46 = .ok (.iconst 0, 1) := by decide +kernel
theorem d21_0 : decode method_4_code 0 = .ok (.iload_n 0, 1) := by decide +kernel
theorem d21_1 : decode method_4_code 1 = .ok (.bipush 9, 2) := by decide +kernel
theorem d21_3 : decode method_4_code 3 = .ok (.if_icmp .eq 39, 3) := by decide +kernel
theorem d21_6 : decode method_4_code 6 = .ok (.iload_n 0, 1) := by decide +kernel
theorem d21_7 : decode method_4_code 7 = .ok (.bipush 10, 2) := by decide +kernel
theorem d21_9 : decode method_4_code 9 = .ok (.if_icmp .eq 33, 3) := by decide +kernel
theorem d21_12 : decode method_4_code 12 = .ok (.iload_n 0, 1) := by decide +kernel
theorem d21_13 : decode method_4_code 13 = .ok (.bipush 13, 2) := by decide +kernel
theorem d21_15 : decode method_4_code 15 = .ok (.if_icmp .eq 27, 3) := by decide +kernel
theorem d21_30 : decode method_4_code 30 = .ok (.iload_n 0, 1) := by decide +kernel
theorem d21_31 : decode method_4_code 31 = .ok (.ldc 34, 2) := by decide +kernel
theorem d21_33 : decode method_4_code 33 = .ok (.if_icmp .lt 13, 3) := by decide +kernel
theorem d21_36 : decode method_4_code 36 = .ok (.iload_n 0, 1) := by decide +kernel
theorem d21_37 : decode method_4_code 37 = .ok (.ldc 35, 2) := by decide +kernel
theorem d21_39 : decode method_4_code 39 = .ok (.if_icmp .gt 7, 3) := by decide +kernel
theorem d21_18 : decode method_4_code 18 = .ok (.iload_n 0, 1) := by decide +kernel
theorem d21_19 : decode method_4_code 19 = .ok (.bipush 32, 2) := by decide +kernel
theorem d21_21 : decode method_4_code 21 = .ok (.if_icmp .lt 9, 3) := by decide +kernel
theorem d21_24 : decode method_4_code 24 = .ok (.iload_n 0, 1) := by decide +kernel
theorem d21_25 : decode method_4_code 25 = .ok (.ldc 33, 2) := by decide +kernel
theorem d21_27 : decode method_4_code 27 = .ok (.if_icmp .le 15, 3) := by decide +kernel
theorem pn_6 : plainName "java/lang/Character" = true := by first | (simp [plainName, overriddenIn]; done) | decide +kernel
theorem d22_0 : decode jdk_89_method_14_code 0 = .ok (.iload_n 0, 1) := by decide +kernel
theorem d22_1 : decode jdk_89_method_14_code 1 = .ok (.ldc 75, 2) := by decide +kernel
theorem d22_3 : decode jdk_89_method_14_code 3 = .ok (.if_icmp .lt 13, 3) := by decide +kernel
theorem d22_16 : decode jdk_89_method_14_code 16 = .ok (.iconst 0, 1) := by decide +kernel
theorem d22_17 : decode jdk_89_method_14_code 17 = .ok (.ireturn, 1) := by decide +kernel
theorem d22_6 : decode jdk_89_method_14_code 6 = .ok (.iload_n 0, 1) := by decide +kernel
theorem d22_7 : decode jdk_89_method_14_code 7 = .ok (.ldc 76, 2) := by decide +kernel
theorem d22_9 : decode jdk_89_method_14_code 9 = .ok (.if_icmp .ge 7, 3) := by decide +kernel
theorem d22_12 : decode jdk_89_method_14_code 12 = .ok (.iconst 1, 1) := by decide +kernel
theorem d22_13 : decode jdk_89_method_14_code 13 = .ok (.goto 4, 3) := by decide +kernel
theorem d23_0 : decode jdk_89_method_15_code 0 = .ok (.iload_n 0, 1) := by decide +kernel
theorem d23_1 : decode jdk_89_method_15_code 1 = .ok (.ldc 76, 2) := by decide +kernel
theorem d23_3 : decode jdk_89_method_15_code 3 = .ok (.if_icmp .lt 13, 3) := by decide +kernel
theorem d23_16 : decode jdk_89_method_15_code 16 = .ok (.iconst 0, 1) := by decide +kernel
theorem d23_17 : decode jdk_89_method_15_code 17 = .ok (.ireturn, 1) := by decide +kernel
theorem d23_6 : decode jdk_89_method_15_code 6 = .ok (.iload_n 0, 1) := by decide +kernel
theorem d23_7 : decode jdk_89_method_15_code 7 = .ok (.ldc 77, 2) := by decide +kernel
theorem d23_9 : decode jdk_89_method_15_code 9 = .ok (.if_icmp .ge 7, 3) := by decide +kernel
theorem d23_12 : decode jdk_89_method_15_code 12 = .ok (.iconst 1, 1) := by decide +kernel
theorem d23_13 : decode jdk_89_method_15_code 13 = .ok (.goto 4, 3) := by decide +kernel
theorem d24_0 : decode jdk_89_method_19_code 0 = .ok (.iload_n 0, 1) := by decide +kernel
theorem d24_1 : decode jdk_89_method_19_code 1 = .ok (.bipush 10, 2) := by decide +kernel
theorem d24_3 : decode jdk_89_method_19_code 3 = .ok (.ishl, 1) := by decide +kernel
theorem d24_4 : decode jdk_89_method_19_code 4 = .ok (.iload_n 1, 1) := by decide +kernel
theorem d24_5 : decode jdk_89_method_19_code 5 = .ok (.iadd, 1) := by decide +kernel
theorem d24_6 : decode jdk_89_method_19_code 6 = .ok (.ldc 85, 2) := by decide +kernel
theorem d24_8 : decode jdk_89_method_19_code 8 = .ok (.iadd, 1) := by decide +kernel
theorem d24_9 : decode jdk_89_method_19_code 9 = .ok (.ireturn, 1) := by decide +kernel
theorem d25_0 : decode jdk_89_method_18_code 0 = .ok (.iload_n 0, 1) := by decide +kernel
theorem d25_1 : decode jdk_89_method_18_code 1 = .ok (.ldc 73, 2) := by decide +kernel
theorem d25_3 : decode jdk_89_method_18_code 3 = .ok (.if_icmp .lt 7, 3) := by decide +kernel
theorem d25_10 : decode jdk_89_method_18_code 10 = .ok (.iconst 1, 1) := by decide +kernel
theorem d25_11 : decode jdk_89_method_18_code 11 = .ok (.ireturn, 1) := by decide +kernel
theorem d25_6 : decode jdk_89_method_18_code 6 = .ok (.iconst 2, 1) := by decide +kernel
theorem d25_7 : decode jdk_89_method_18_code 7 = .ok (.goto 4, 3) := by decide +kernel
theorem ef_ri_4 (m : MethodId) (x0 : Addr) (x1 : Int32) : entryFrame m #[(.ref x0), (.int x1)] 4 = mkF m 0 ⟨[.val (.ref x0), .val (.int x1), .unset, .unset]⟩ [] := by exact efOf rfl
theorem d26_0 : decode jdk_89_method_20_code 0 = .ok (.aload_n 0, 1) := by decide +kernel
theorem d26_1 : decode jdk_89_method_20_code 1 = .ok (.iload_n 1, 1) := by decide +kernel
theorem d26_2 : decode jdk_89_method_20_code 2 = .ok (.invokeinterface 86 2, 5) := by decide +kernel
theorem ar_14 : XT.arity "(I)C" = some 1 := by decide +kernel
theorem d26_7 : decode jdk_89_method_20_code 7 = .ok (.istore_n 2, 1) := by decide +kernel
theorem d26_8 : decode jdk_89_method_20_code 8 = .ok (.iload_n 2, 1) := by decide +kernel
theorem d26_9 : decode jdk_89_method_20_code 9 = .ok (.invokestatic 78, 3) := by decide +kernel
theorem ar_15 : XT.arity "(C)Z" = some 1 := by decide +kernel
theorem d26_12 : decode jdk_89_method_20_code 12 = .ok (.ifCond .eq 37, 3) := by decide +kernel
theorem d26_15 : decode jdk_89_method_20_code 15 = .ok (.iinc 1 1, 3) := by decide +kernel
theorem d26_18 : decode jdk_89_method_20_code 18 = .ok (.iload_n 1, 1) := by decide +kernel
theorem d26_19 : decode jdk_89_method_20_code 19 = .ok (.aload_n 0, 1) := by decide +kernel
theorem d26_20 : decode jdk_89_method_20_code 20 = .ok (.invokeinterface 92 1, 5) := by decide +kernel
theorem ar_16 : XT.arity "()I" = some 0 := by decide +kernel
theorem d26_25 : decode jdk_89_method_20_code 25 = .ok (.if_icmp .ge 24, 3) := by decide +kernel
theorem d26_28 : decode jdk_89_method_20_code 28 = .ok (.aload_n 0, 1) := by decide +kernel
theorem d26_29 : decode jdk_89_method_20_code 29 = .ok (.iload_n 1, 1) := by decide +kernel
theorem d26_30 : decode jdk_89_method_20_code 30 = .ok (.invokeinterface 86 2, 5) := by decide +kernel
theorem d26_35 : decode jdk_89_method_20_code 35 = .ok (.istore_n 3, 1) := by decide +kernel
theorem d26_36 : decode jdk_89_method_20_code 36 = .ok (.iload_n 3, 1) := by decide +kernel
theorem d26_37 : decode jdk_89_method_20_code 37 = .ok (.invokestatic 82, 3) := by decide +kernel
theorem d26_40 : decode jdk_89_method_20_code 40 = .ok (.ifCond .eq 9, 3) := by decide +kernel
theorem d26_43 : decode jdk_89_method_20_code 43 = .ok (.iload_n 2, 1) := by decide +kernel
theorem d26_44 : decode jdk_89_method_20_code 44 = .ok (.iload_n 3, 1) := by decide +kernel
theorem d26_45 : decode jdk_89_method_20_code 45 = .ok (.invokestatic 96, 3) := by decide +kernel
theorem ar_17 : XT.arity "(CC)I" = some 2 := by decide +kernel
theorem d26_48 : decode jdk_89_method_20_code 48 = .ok (.ireturn, 1) := by decide +kernel
theorem d26_49 : decode jdk_89_method_20_code 49 = .ok (.iload_n 2, 1) := by decide +kernel
theorem d26_50 : decode jdk_89_method_20_code 50 = .ok (.ireturn, 1) := by decide +kernel
theorem d27_2 : decode prog_23_method_2_code 2 = .ok (.iload_n 1, 1) := by decide +kernel
theorem d27_3 : decode prog_23_method_2_code 3 = .ok (.aload_n 0, 1) := by decide +kernel
theorem d27_4 : decode prog_23_method_2_code 4 = .ok (.invokeinterface 7 1, 5) := by decide +kernel
theorem d27_9 : decode prog_23_method_2_code 9 = .ok (.if_icmp .ge 28, 3) := by decide +kernel
theorem d27_37 : decode prog_23_method_2_code 37 = .ok (.iconst (-1), 1) := by decide +kernel
theorem d27_38 : decode prog_23_method_2_code 38 = .ok (.ireturn, 1) := by decide +kernel
theorem d27_12 : decode prog_23_method_2_code 12 = .ok (.aload_n 0, 1) := by decide +kernel
theorem d27_13 : decode prog_23_method_2_code 13 = .ok (.iload_n 1, 1) := by decide +kernel
theorem d27_14 : decode prog_23_method_2_code 14 = .ok (.invokestatic 13, 3) := by decide +kernel
theorem ar_18 : XT.arity "(Ljava/lang/CharSequence;I)I" = some 2 := by decide +kernel
theorem d27_17 : decode prog_23_method_2_code 17 = .ok (.istore_n 2, 1) := by decide +kernel
theorem d27_18 : decode prog_23_method_2_code 18 = .ok (.iload_n 2, 1) := by decide +kernel
theorem d27_19 : decode prog_23_method_2_code 19 = .ok (.invokestatic 19, 3) := by decide +kernel
theorem ar_19 : XT.arity "(I)Z" = some 1 := by decide +kernel
theorem d27_22 : decode prog_23_method_2_code 22 = .ok (.ifCond .ne 5, 3) := by decide +kernel
theorem d27_27 : decode prog_23_method_2_code 27 = .ok (.iload_n 1, 1) := by decide +kernel
theorem d27_28 : decode prog_23_method_2_code 28 = .ok (.iload_n 2, 1) := by decide +kernel
theorem d27_29 : decode prog_23_method_2_code 29 = .ok (.invokestatic 25, 3) := by decide +kernel
theorem d27_32 : decode prog_23_method_2_code 32 = .ok (.iadd, 1) := by decide +kernel
theorem d27_33 : decode prog_23_method_2_code 33 = .ok (.istore_n 1, 1) := by decide +kernel
theorem d27_34 : decode prog_23_method_2_code 34 = .ok (.goto (-32), 3) := by decide +kernel
theorem d27_25 : decode prog_23_method_2_code 25 = .ok (.iload_n 1, 1) := by decide +kernel
theorem d27_26 : decode prog_23_method_2_code 26 = .ok (.ireturn, 1) := by decide +kernel
theorem ef_r_3 (m : MethodId) (x0 : Addr) : entryFrame m #[(.ref x0)] 3 = mkF m 0 ⟨[.val (.ref x0), .unset, .unset]⟩ [] := by exact efOf rfl
theorem d27_0 : decode prog_23_method_2_code 0 = .ok (.iconst 0, 1) := by decide +kernel
theorem d27_1 : decode prog_23_method_2_code 1 = .ok (.istore_n 1, 1) := by decide +kernel
theorem ef_i_3 (m : MethodId) (x0 : Int32) : entryFrame m #[(.int x0)] 3 = mkF m 0 ⟨[.val (.int x0), .unset, .unset]⟩ [] := by exact efOf rfl
theorem d28_0 : decode method_3_code 0 = .ok (.iload_n 0, 1) := by decide +kernel
theorem d28_1 : decode method_3_code 1 = .ok (.bipush 16, 2) := by decide +kernel
theorem d28_3 : decode method_3_code 3 = .ok (.iushr, 1) := by decide +kernel
theorem d28_4 : decode method_3_code 4 = .ok (.iconst 3, 1) := by decide +kernel
theorem d28_5 : decode method_3_code 5 = .ok (.iand, 1) := by decide +kernel
theorem d28_6 : decode method_3_code 6 = .ok (.istore_n 1, 1) := by decide +kernel
theorem d28_7 : decode method_3_code 7 = .ok (.iload_n 1, 1) := by decide +kernel
theorem d28_8 : decode method_3_code 8 = .ok (.iconst 1, 1) := by decide +kernel
theorem d28_9 : decode method_3_code 9 = .ok (.if_icmp .ne 13, 3) := by decide +kernel
theorem d28_22 : decode method_3_code 22 = .ok (.iload_n 1, 1) := by decide +kernel
theorem d28_23 : decode method_3_code 23 = .ok (.iconst 2, 1) := by decide +kernel
theorem d28_24 : decode method_3_code 24 = .ok (.if_icmp .ne 13, 3) := by decide +kernel
theorem d28_37 : decode method_3_code 37 = .ok (.iload_n 1, 1) := by decide +kernel
theorem d28_38 : decode method_3_code 38 = .ok (.iconst 3, 1) := by decide +kernel
theorem d28_39 : decode method_3_code 39 = .ok (.if_icmp .ne 25, 3) := by decide +kernel
theorem d28_64 : decode method_3_code 64 = .ok (.iload_n 0, 1) := by decide +kernel
theorem d28_65 : decode method_3_code 65 = .ok (.ldc 32, 2) := by decide +kernel
theorem d28_67 : decode method_3_code 67 = .ok (.iand, 1) := by decide +kernel
theorem d28_68 : decode method_3_code 68 = .ok (.i2c, 1) := by decide +kernel
theorem d28_69 : decode method_3_code 69 = .ok (.ireturn, 1) := by decide +kernel
theorem d28_42 : decode method_3_code 42 = .ok (.iload_n 0, 1) := by decide +kernel
theorem d28_43 : decode method_3_code 43 = .ok (.bipush 31, 2) := by decide +kernel
theorem d28_45 : decode method_3_code 45 = .ok (.iand, 1) := by decide +kernel
theorem d28_46 : decode method_3_code 46 = .ok (.istore_n 2, 1) := by decide +kernel
theorem d28_47 : decode method_3_code 47 = .ok (.iload_n 0, 1) := by decide +kernel
theorem d28_48 : decode method_3_code 48 = .ok (.iconst 5, 1) := by decide +kernel
theorem d28_49 : decode method_3_code 49 = .ok (.iushr, 1) := by decide +kernel
theorem d28_50 : decode method_3_code 50 = .ok (.iconst 1, 1) := by decide +kernel
theorem d28_51 : decode method_3_code 51 = .ok (.iand, 1) := by decide +kernel
theorem d28_52 : decode method_3_code 52 = .ok (.ifCond .ne 6, 3) := by decide +kernel
theorem d28_58 : decode method_3_code 58 = .ok (.ldc 31, 2) := by decide +kernel
theorem d28_60 : decode method_3_code 60 = .ok (.iload_n 2, 1) := by decide +kernel
theorem d28_61 : decode method_3_code 61 = .ok (.ior, 1) := by decide +kernel
theorem d28_62 : decode method_3_code 62 = .ok (.i2c, 1) := by decide +kernel
theorem d28_63 : decode method_3_code 63 = .ok (.ireturn, 1) := by decide +kernel
theorem d28_55 : decode method_3_code 55 = .ok (.iload_n 2, 1) := by decide +kernel
theorem d28_56 : decode method_3_code 56 = .ok (.i2c, 1) := by decide +kernel
theorem d28_57 : decode method_3_code 57 = .ok (.ireturn, 1) := by decide +kernel
theorem d28_27 : decode method_3_code 27 = .ok (.ldc 30, 2) := by decide +kernel
theorem d28_29 : decode method_3_code 29 = .ok (.iload_n 0, 1) := by decide +kernel
theorem d28_30 : decode method_3_code 30 = .ok (.sipush 1023, 3) := by decide +kernel
theorem d28_33 : decode method_3_code 33 = .ok (.iand, 1) := by decide +kernel
theorem d28_34 : decode method_3_code 34 = .ok (.ior, 1) := by decide +kernel
theorem d28_35 : decode method_3_code 35 = .ok (.i2c, 1) := by decide +kernel
theorem d28_36 : decode method_3_code 36 = .ok (.ireturn, 1) := by decide +kernel
theorem d28_12 : decode method_3_code 12 = .ok (.ldc 29, 2) := by decide +kernel
theorem d28_14 : decode method_3_code 14 = .ok (.iload_n 0, 1) := by decide +kernel
theorem d28_15 : decode method_3_code 15 = .ok (.sipush 1023, 3) := by decide +kernel
theorem d28_18 : decode method_3_code 18 = .ok (.iand, 1) := by decide +kernel
theorem d28_19 : decode method_3_code 19 = .ok (.ior, 1) := by decide +kernel
theorem d28_20 : decode method_3_code 20 = .ok (.i2c, 1) := by decide +kernel
theorem d28_21 : decode method_3_code 21 = .ok (.ireturn, 1) := by decide +kernel
theorem d29_47 : decode method_5_code 47 = .ok (.iload_n 3, 1) := by decide +kernel
theorem d29_48 : decode method_5_code 48 = .ok (.invokestatic 38, 3) := by decide +kernel
theorem d29_51 : decode method_5_code 51 = .ok (.ifCond .eq 7, 3) := by decide +kernel
theorem d29_54 : decode method_5_code 54 = .ok (.iload_n 2, 1) := by decide +kernel
theorem d29_55 : decode method_5_code 55 = .ok (.iconst 1, 1) := by decide +kernel
theorem d29_56 : decode method_5_code 56 = .ok (.iadd, 1) := by decide +kernel
theorem d29_57 : decode method_5_code 57 = .ok (.ireturn, 1) := by decide +kernel
theorem d29_58 : decode method_5_code 58 = .ok (.iload_n 2, 1) := by decide +kernel
theorem d29_59 : decode method_5_code 59 = .ok (.ineg, 1) := by decide +kernel
theorem d29_60 : decode method_5_code 60 = .ok (.iconst 1, 1) := by decide +kernel
theorem d29_61 : decode method_5_code 61 = .ok (.isub, 1) := by decide +kernel
theorem d29_62 : decode method_5_code 62 = .ok (.ireturn, 1) := by decide +kernel
theorem ef_rii_4 (m : MethodId) (x0 : Addr) (x1 : Int32) (x2 : Int32) : entryFrame m #[(.ref x0), (.int x1), (.int x2)] 4 = mkF m 0 ⟨[.val (.ref x0), .val (.int x1), .val (.int x2), .unset]⟩ [] := by exact efOf rfl
theorem d29_0 : decode method_5_code 0 = .ok (.aload_n 0, 1) := by decide +kernel
theorem d29_1 : decode method_5_code 1 = .ok (.iload_n 2, 1) := by decide +kernel
theorem d29_2 : decode method_5_code 2 = .ok (.caload, 1) := by decide +kernel
theorem d29_3 : decode method_5_code 3 = .ok (.istore_n 3, 1) := by decide +kernel
theorem d29_4 : decode method_5_code 4 = .ok (.iload_n 3, 1) := by decide +kernel
theorem d29_5 : decode method_5_code 5 = .ok (.ldc 29, 2) := by decide +kernel
theorem d29_7 : decode method_5_code 7 = .ok (.if_icmp .lt 40, 3) := by decide +kernel
theorem d29_10 : decode method_5_code 10 = .ok (.iload_n 3, 1) := by decide +kernel
theorem d29_11 : decode method_5_code 11 = .ok (.ldc 36, 2) := by decide +kernel
theorem d29_13 : decode method_5_code 13 = .ok (.if_icmp .gt 34, 3) := by decide +kernel
theorem d29_16 : decode method_5_code 16 = .ok (.iload_n 2, 1) := by decide +kernel
theorem d29_17 : decode method_5_code 17 = .ok (.iconst 1, 1) := by decide +kernel
theorem d29_18 : decode method_5_code 18 = .ok (.iadd, 1) := by decide +kernel
theorem d29_19 : decode method_5_code 19 = .ok (.iload_n 1, 1) := by decide +kernel
theorem d29_20 : decode method_5_code 20 = .ok (.if_icmp .ge 27, 3) := by decide +kernel
theorem d29_23 : decode method_5_code 23 = .ok (.aload_n 0, 1) := by decide +kernel
theorem d29_24 : decode method_5_code 24 = .ok (.iload_n 2, 1) := by decide +kernel
theorem d29_25 : decode method_5_code 25 = .ok (.iconst 1, 1) := by decide +kernel
theorem d29_26 : decode method_5_code 26 = .ok (.iadd, 1) := by decide +kernel
theorem d29_27 : decode method_5_code 27 = .ok (.caload, 1) := by decide +kernel
theorem d29_28 : decode method_5_code 28 = .ok (.ldc 30, 2) := by decide +kernel
theorem d29_30 : decode method_5_code 30 = .ok (.if_icmp .lt 17, 3) := by decide +kernel
theorem d29_33 : decode method_5_code 33 = .ok (.aload_n 0, 1) := by decide +kernel
theorem d29_34 : decode method_5_code 34 = .ok (.iload_n 2, 1) := by decide +kernel
theorem d29_35 : decode method_5_code 35 = .ok (.iconst 1, 1) := by decide +kernel
theorem d29_36 : decode method_5_code 36 = .ok (.iadd, 1) := by decide +kernel
theorem d29_37 : decode method_5_code 37 = .ok (.caload, 1) := by decide +kernel
theorem d29_38 : decode method_5_code 38 = .ok (.ldc 37, 2) := by decide +kernel
theorem d29_40 : decode method_5_code 40 = .ok (.if_icmp .gt 7, 3) := by decide +kernel
theorem d29_43 : decode method_5_code 43 = .ok (.iload_n 2, 1) := by decide +kernel
theorem d29_44 : decode method_5_code 44 = .ok (.iconst 2, 1) := by decide +kernel
theorem d29_45 : decode method_5_code 45 = .ok (.iadd, 1) := by decide +kernel
theorem d29_46 : decode method_5_code 46 = .ok (.ireturn, 1) := by decide +kernel
theorem d30_48 : decode method_6_code 48 = .ok (.iload_n 2, 1) := by decide +kernel
theorem d30_49 : decode method_6_code 49 = .ok (.iload_n 1, 1) := by decide +kernel
theorem d30_50 : decode method_6_code 50 = .ok (.if_icmp .ge 21, 3) := by decide +kernel
theorem d30_53 : decode method_6_code 53 = .ok (.aload_n 0, 1) := by decide +kernel
theorem d30_54 : decode method_6_code 54 = .ok (.iload_n 1, 1) := by decide +kernel
theorem d30_55 : decode method_6_code 55 = .ok (.iload_n 2, 1) := by decide +kernel
theorem d30_56 : decode method_6_code 56 = .ok (.invokestatic 42, 3) := by decide +kernel
theorem ar_20 : XT.arity "([CII)I" = some 3 := by decide +kernel
theorem d30_59 : decode method_6_code 59 = .ok (.istore_n 3, 1) := by decide +kernel
theorem d30_60 : decode method_6_code 60 = .ok (.iload_n 3, 1) := by decide +kernel
theorem d30_61 : decode method_6_code 61 = .ok (.ifCond .ge 8, 3) := by decide +kernel
theorem d30_69 : decode method_6_code 69 = .ok (.iload_n 3, 1) := by decide +kernel
theorem d30_70 : decode method_6_code 70 = .ok (.istore_n 2, 1) := by decide +kernel
theorem d30_71 : decode method_6_code 71 = .ok (.iconst (-1), 1) := by decide +kernel
theorem d30_72 : decode method_6_code 72 = .ok (.ireturn, 1) := by decide +kernel
theorem d30_64 : decode method_6_code 64 = .ok (.iload_n 3, 1) := by decide +kernel
theorem d30_65 : decode method_6_code 65 = .ok (.ineg, 1) := by decide +kernel
theorem d30_66 : decode method_6_code 66 = .ok (.iconst 1, 1) := by decide +kernel
theorem d30_67 : decode method_6_code 67 = .ok (.isub, 1) := by decide +kernel
theorem d30_68 : decode method_6_code 68 = .ok (.ireturn, 1) := by decide +kernel
theorem d30_25 : decode method_6_code 25 = .ok (.iload_n 2, 1) := by decide +kernel
theorem d30_26 : decode method_6_code 26 = .ok (.iload_n 1, 1) := by decide +kernel
theorem d30_27 : decode method_6_code 27 = .ok (.if_icmp .ge 21, 3) := by decide +kernel
theorem d30_30 : decode method_6_code 30 = .ok (.aload_n 0, 1) := by decide +kernel
theorem d30_31 : decode method_6_code 31 = .ok (.iload_n 1, 1) := by decide +kernel
theorem d30_32 : decode method_6_code 32 = .ok (.iload_n 2, 1) := by decide +kernel
theorem d30_33 : decode method_6_code 33 = .ok (.invokestatic 42, 3) := by decide +kernel
theorem d30_36 : decode method_6_code 36 = .ok (.istore_n 3, 1) := by decide +kernel
theorem d30_37 : decode method_6_code 37 = .ok (.iload_n 3, 1) := by decide +kernel
theorem d30_38 : decode method_6_code 38 = .ok (.ifCond .ge 8, 3) := by decide +kernel
theorem d30_46 : decode method_6_code 46 = .ok (.iload_n 3, 1) := by decide +kernel
theorem d30_47 : decode method_6_code 47 = .ok (.istore_n 2, 1) := by decide +kernel
theorem d30_41 : decode method_6_code 41 = .ok (.iload_n 3, 1) := by decide +kernel
theorem d30_42 : decode method_6_code 42 = .ok (.ineg, 1) := by decide +kernel
theorem d30_43 : decode method_6_code 43 = .ok (.iconst 1, 1) := by decide +kernel
theorem d30_44 : decode method_6_code 44 = .ok (.isub, 1) := by decide +kernel
theorem d30_45 : decode method_6_code 45 = .ok (.ireturn, 1) := by decide +kernel
theorem d30_0 : decode method_6_code 0 = .ok (.iconst 0, 1) := by decide +kernel
theorem d30_1 : decode method_6_code 1 = .ok (.istore_n 2, 1) := by decide +kernel
theorem d30_2 : decode method_6_code 2 = .ok (.iload_n 2, 1) := by decide +kernel
theorem d30_3 : decode method_6_code 3 = .ok (.iload_n 1, 1) := by decide +kernel
theorem d30_4 : decode method_6_code 4 = .ok (.if_icmp .ge 21, 3) := by decide +kernel
theorem d30_7 : decode method_6_code 7 = .ok (.aload_n 0, 1) := by decide +kernel
theorem d30_8 : decode method_6_code 8 = .ok (.iload_n 1, 1) := by decide +kernel
theorem d30_9 : decode method_6_code 9 = .ok (.iload_n 2, 1) := by decide +kernel
theorem d30_10 : decode method_6_code 10 = .ok (.invokestatic 42, 3) := by decide +kernel
theorem d30_13 : decode method_6_code 13 = .ok (.istore_n 3, 1) := by decide +kernel
theorem d30_14 : decode method_6_code 14 = .ok (.iload_n 3, 1) := by decide +kernel
theorem d30_15 : decode method_6_code 15 = .ok (.ifCond .ge 8, 3) := by decide +kernel
theorem d30_23 : decode method_6_code 23 = .ok (.iload_n 3, 1) := by decide +kernel
theorem d30_24 : decode method_6_code 24 = .ok (.istore_n 2, 1) := by decide +kernel
theorem d30_18 : decode method_6_code 18 = .ok (.iload_n 3, 1) := by decide +kernel
theorem d30_19 : decode method_6_code 19 = .ok (.ineg, 1) := by decide +kernel
theorem d30_20 : decode method_6_code 20 = .ok (.iconst 1, 1) := by decide +kernel
theorem d30_21 : decode method_6_code 21 = .ok (.isub, 1) := by decide +kernel
theorem d30_22 : decode method_6_code 22 = .ok (.ireturn, 1) := by decide +kernel
theorem ar_21 : XT.arity "([C)V" = some 1 := by decide +kernel
theorem ar_22 : XT.arity "(Ljava/lang/CharSequence;)I" = some 1 := by decide +kernel
theorem ar_23 : XT.arity "([CI)I" = some 2 := by decide +kernel
theorem ef_iiii_11 (m : MethodId) (x0 : Int32) (x1 : Int32) (x2 : Int32) (x3 : Int32) : entryFrame m #[(.int x0), (.int x1), (.int x2), (.int x3)] 11 = mkF m 0 ⟨[.val (.int x0), .val (.int x1), .val (.int x2), .val (.int x3), .unset, .unset, .unset, .unset, .unset, .unset, .unset]⟩ [] := by exact efOf rfl
theorem layS_ok {Z : State} {a0 : Array Value} (hw : ∀ d ∈ tables_1, d.before a0 Z = true) : LayOk Z a0 "java/lang/String" layS := by
  refine ⟨fun f hf => ?_, by decide +kernel, fun f hf => ?_⟩
  all_goals simp only [layS, List.mem_cons, List.not_mem_nil, or_false] at hf
  all_goals rcases hf with rfl | rfl
  · exact Or.inr (hw _ (List.mem_of_getElem? (i := 22) rfl))
  · exact Or.inr (hw _ (List.mem_of_getElem? (i := 23) rfl))
  · exact ⟨(.array .byte), by decide +kernel⟩
  · exact ⟨.byte, by decide +kernel⟩
theorem layS_dv : Dv layS [.null, (.int 0)] := by decide +kernel
/-- the byte of a sign -/
def b8 (c : Int32) : Int32 := c.toInt8.toInt32
def toB (c : Int32) : Value := .int (b8 c)
theorem toB_eq (cs : List Int32) : cs.map toB = (cs.map b8).map .int := by rw [List.map_map]; rfl
def Lat (cs : List Int32) : Prop := ∀ c ∈ cs, 0 ≤ c.toInt ∧ c.toInt < 256
theorem lat_nil : Lat [] := fun _ h => nomatch h
theorem lat_cons {c : Int32} {cs : List Int32} (h : 0 ≤ c.toInt ∧ c.toInt < 256) (t : Lat cs) : Lat (c :: cs) := fun x hx => (List.mem_cons.mp hx).elim (fun e => e ▸ h) (t x)
theorem lat_le {c : Int32} (h : 0 ≤ c.toInt ∧ c.toInt < 256) : ¬ (255 : Int32) < c := by rw [Int32.lt_iff_toInt_lt]; show ¬ (255 : Int) < _; omega
theorem toB_nar (c : Int32) : nar .byte c.toInt8.toInt32 = c.toInt8.toInt32 := by simp [nar]
theorem set_mid (cs : List Int32) (i : Nat) (h : i < cs.length) : ((cs.take i).map toB ++ List.replicate (cs.length - i) (Value.int 0)).set i (toB cs[i]) = (cs.take (i + 1)).map toB ++ List.replicate (cs.length - (i + 1)) (Value.int 0) := by
  have h1 : ((cs.take i).map toB).length = i := by simp; omega
  rw [List.set_append_right _ _ (by omega), h1, Nat.sub_self, show cs.length - i = (cs.length - (i + 1)) + 1 by omega, List.replicate_succ, List.set_cons_zero, List.take_succ_eq_append_getElem h, List.map_append, List.append_assoc]
  rfl
theorem nchar_lat {c : Int32} (h : 0 ≤ c.toInt ∧ c.toInt < 256) : nar .char c = c := by
  apply Int32.toInt_inj.mp
  have q := c_i2c c
  show c.toUInt32.toUInt16.toUInt32.toInt32.toInt = c.toInt
  omega
theorem b8_toInt {c : Int32} (h : 0 ≤ c.toInt ∧ c.toInt < 256) : (b8 c).toInt = if c.toInt < 128 then c.toInt else c.toInt - 256 := by
  have q := c_i2b c
  show c.toInt8.toInt32.toInt = _
  split <;> omega
theorem b8_iff {c d e : Int32} (h : 0 ≤ c.toInt ∧ c.toInt < 256) (h' : 0 ≤ d.toInt ∧ d.toInt < 256) (he : b8 d = e) : b8 c = e ↔ c = d := by
  subst he
  refine ⟨fun q => Int32.toInt_inj.mp ?_, fun q => by rw [q]⟩
  have := congrArg Int32.toInt q
  rw [b8_toInt h, b8_toInt h'] at this
  split at this <;> split at this <;> omega
set_option maxHeartbeats 4000000 in
theorem wk_compressL {l : Launch} {Z : State} {a0 : Array Value} (hw : ∀ d ∈ tables_1, d.before a0 Z = true) (hE : EW Z a0 EL0) {L : Store} {ca b : Addr} {fa : Bool} {cs : List Int32} (hc : Lat cs) (hl : cs.length < 2 ^ 31) (hm : (ca, fa, AR Z .char (cs.map .int)) ∈ L) {cb sb : Nat} : ∀ (k i : Nat) (o : Slot), i + k = cs.length → One o →
    Wk l Z a0 EL0 (⟨"java/lang/StringUTF16", "compress", "([CI[BII)I"⟩ : MethodName) jdk_52_method_21_code 7 (some .int) ({ frames := 0, cells := 0, slots := 0, locals := 0 } : Room) (RV fun u M => u = .int cs.length.toInt32 ∧ M = (b, true, AR Z .byte ((cs.map b8).map .int)) :: L) ((b, true, AR Z .byte ((cs.take i).map toB ++ List.replicate (cs.length - i) (.int 0))) :: L) cb sb 3 [.val (.ref ca), .val (.int i.toInt32), .val (.ref b), .val (.int i.toInt32), .val (.int cs.length.toInt32), .val (.int i.toInt32), o] [] := by
  intro k
  induction k with
  | zero =>
    intro i o hi ho
    have hi' : i = cs.length := by omega
    subst hi'
    refine Wk.iload (q := 5) d0_3 rfl rfl ?_
    refine Wk.iload (q := 7) d0_5 rfl rfl ?_
    refine Wk.icmp_t (q := 44) d0_7 (by decide) (by decide) (XT.ii_ge_t (fun h => by rw [n32_lt hl hl] at h; omega)) ?_
    refine Wk.iload (q := 46) d0_44 rfl rfl ?_
    refine Wk.ireturn (t := .int) d0_46 rfl (by simp) (by rfl) ?_
    refine ⟨_, rfl, rfl, ?_⟩
    rw [← toB_eq]
    simp
  | succ k ih =>
    intro i o hi ho
    have hil : i < cs.length := by omega
    have hi3 : i < 2 ^ 31 := by omega
    have hv : (cs.map Value.int)[i]? = some (.int cs[i]) := by simp [hil]
    have hci := hc cs[i] (List.getElem_mem hil)
    refine Wk.iload (q := 5) d0_3 rfl rfl ?_
    refine Wk.iload (q := 7) d0_5 rfl rfl ?_
    refine Wk.icmp_f (q := 10) d0_7 rfl (XT.ii_ge_f ((n32_lt hi3 hl).mpr hil)) ?_
    refine Wk.aload_n (q := 11) d0_10 rfl rfl (by first | rfl | assumption) ?_
    refine Wk.iload_n (q := 12) d0_11 rfl rfl ?_
    refine Wk.caload (q := 13) (i) d0_12 rfl (by repeat (first | exact List.mem_cons_self | assumption | refine List.mem_cons_of_mem _ ?_)) (n32_nn hi3) (n32_nat hi3) hv ?_
    refine Wk.istore (q := 15) d0_13 rfl (LS1.there (LS1.there (LS1.there (LS1.there (LS1.there (LS1.there (LS1.here (by first | exact One.u | exact One.val rfl | assumption)))))))) ?_
    refine Wk.iload (q := 17) d0_15 rfl rfl ?_
    refine Wk.sipush (q := 20) (255) d0_17 rfl (by decide) ?_
    refine Wk.icmp_t (q := 26) d0_20 (by decide) (by decide) (XT.ii_le_t (lat_le hci)) ?_
    refine Wk.aload_n (q := 27) d0_26 rfl rfl (by first | rfl | assumption) ?_
    refine Wk.iload_n (q := 28) d0_27 rfl rfl ?_
    refine Wk.iload (q := 30) d0_28 rfl rfl ?_
    refine Wk.i2b (q := 31) d0_30 rfl ?_
    refine Wk.bastore (q := 32) (i) d0_31 rfl (by repeat (first | exact Ex.here | assumption | apply Ex.there)) (n32_nn hi3) (n32_nat hi3) (toB_nar _) ⟨set_mid cs i hil, by simp; omega⟩ ?_
    refine Wk.iinc (q := 35) (1) d0_32 rfl (by decide) rfl (LS1.there (LS1.here (by first | exact One.u | exact One.val rfl | assumption))) ?_
    refine Wk.iinc (q := 38) (1) d0_35 rfl (by decide) rfl (LS1.there (LS1.there (LS1.there (LS1.here (by first | exact One.u | exact One.val rfl | assumption))))) ?_
    refine Wk.iinc (q := 41) (1) d0_38 rfl (by decide) rfl (LS1.there (LS1.there (LS1.there (LS1.there (LS1.there (LS1.here (by first | exact One.u | exact One.val rfl | assumption))))))) ?_
    refine Wk.goto (q := 3) d0_41 (by decide) (by decide) ?_
    rw [n32_succ]
    exact ih (i + 1) _ (by omega) (One.val rfl)
set_option maxHeartbeats 4000000 in
theorem ct_compressL {l : Launch} {Z : State} {a0 : Array Value} (hw : ∀ d ∈ tables_1, d.before a0 Z = true) (hE : EW Z a0 EL0) {L : Store} {ca b : Addr} {fa : Bool} {cs : List Int32} (hc : Lat cs) (hl : cs.length < 2 ^ 31) (hm : (ca, fa, AR Z .char (cs.map .int)) ∈ L) :
    Ct l Z EL0 (⟨"java/lang/StringUTF16", "compress", "([CI[BII)I"⟩ : MethodName) jdk_52_method_21_code 7 (some .int) ({ frames := 0, cells := 0, slots := 0, locals := 0 } : Room) #[.ref ca, .int 0, .ref b, .int 0, .int cs.length.toInt32] ((b, true, AR Z .byte (List.replicate cs.length (.int 0))) :: L) (RV fun u M => u = .int cs.length.toInt32 ∧ M = (b, true, AR Z .byte ((cs.map b8).map .int)) :: L) := by
  refine Ct.of (a0 := a0) (Ls := [.val (.ref _), .val (.int _), .val (.ref _), .val (.int _), .val (.int _), .unset, .unset]) (plainFor_of_name pn_0) (fun m => ef_ririi_7 m _ _ _ _ _) hE ?_
  refine Wk.iconst (q := 1) (0) d0_0 rfl (by decide) ?_
  refine Wk.istore (q := 3) d0_1 rfl (LS1.there (LS1.there (LS1.there (LS1.there (LS1.there (LS1.here (by first | exact One.u | exact One.val rfl | assumption))))))) ?_
  have h := wk_compressL hw hE (l := l) (b := b) (cb := 0) (sb := 0) hc hl hm cs.length 0 .unset (by omega) One.u
  simp only [List.take_zero, List.map_nil, List.nil_append, Nat.sub_zero] at h
  exact h
theorem ct_coderLat {l : Launch} {Z : State} {a0 : Array Value} (hw : ∀ d ∈ tables_1, d.before a0 Z = true) (hE : EW Z a0 EL0) {L : Store} {b : Addr} {fb : Bool} {vs : List Value} (hm : (b, fb, AR Z .byte vs) ∈ L) :
    Ct l Z EL0 (⟨"java/lang/StringUTF16", "coderFromArrayLen", "([BI)B"⟩ : MethodName) jdk_52_method_15_code 2 (some .byte) ({ frames := 0, cells := 0, slots := 0, locals := 0 } : Room) #[.ref b, .int vs.length.toInt32] L (RV fun u M => u = .int 0 ∧ M = L) := by
  refine Ct.of (a0 := a0) (Ls := [.val (.ref _), .val (.int _)]) (plainFor_of_name pn_0) (fun m => ef_ri_2 m _ _) hE ?_
  refine Wk.iload_n (q := 1) d1_0 rfl rfl ?_
  refine Wk.aload_n (q := 2) d1_1 rfl rfl (by first | rfl | assumption) ?_
  refine Wk.arraylength (q := 3) d1_2 rfl (by repeat (first | exact List.mem_cons_self | assumption | refine List.mem_cons_of_mem _ ?_)) (by rfl) ?_
  refine Wk.isub (q := 4) d1_3 rfl ?_
  rw [Int32.sub_self]
  refine Wk.bipush (q := 6) (31) d1_4 rfl (by decide) ?_
  refine Wk.iushr (q := 7) d1_6 rfl ?_
  refine Wk.i2b (q := 8) d1_7 rfl ?_
  refine Wk.ireturn (t := .byte) d1_8 rfl (by simp) (by decide) ?_
  exact ⟨_, rfl, by decide, rfl⟩
set_option maxHeartbeats 4000000 in
theorem ct_compressA {l : Launch} {Z : State} {a0 : Array Value} (hw : ∀ d ∈ tables_1, d.before a0 Z = true) (hE : EW Z a0 EL0) {L : Store} {ca : Addr} {fa : Bool} {cs : List Int32} (hc : Lat cs) (N : Nat) (hN : cs.length ≤ N) (hl : cs.length ≤ 4000) (hm : (ca, fa, AR Z .char (cs.map .int)) ∈ L) :
    Ct l Z EL0 (⟨"java/lang/StringUTF16", "compress", "([CII)[B"⟩ : MethodName) jdk_52_method_16_code 6 (some (.array .byte)) ({ frames := 3, cells := 1, slots := N, locals := 43 } : Room) #[.ref ca, .int 0, .int cs.length.toInt32] L (RV fun u M => ∃ b, u = .ref b ∧ M = (b, true, AR Z .byte ((cs.map b8).map .int)) :: L) := by
  have h31 : cs.length < 2 ^ 31 := by omega
  refine Ct.of (a0 := a0) (Ls := [.val (.ref _), .val (.int _), .val (.int _), .unset, .unset, .unset]) (plainFor_of_name pn_0) (fun m => ef_rii_6 m _ _ _) hE ?_
  refine Wk.iload_n (q := 1) d2_0 rfl rfl ?_
  refine Wk.newarray (q := 3) .byte ((cs.length)) (List.replicate (cs.length) (.int 0)) d2_1 rfl rfl rfl (hw _ (List.mem_of_getElem? (i := 21) rfl)) (n32_nn h31) (n32_nat h31) (by omega) (by first | decide | (dsimp only; omega) | omega) (by first | decide | (dsimp only; omega) | omega) ?_
  intro b
  refine Wk.astore_n (q := 4) d2_3 rfl (by first | rfl | assumption) (LS1.there (LS1.there (LS1.there (LS1.here (by first | exact One.u | exact One.val rfl | assumption))))) ?_
  refine Wk.aload_n (q := 5) d2_4 rfl rfl (by first | rfl | assumption) ?_
  refine Wk.iload_n (q := 6) d2_5 rfl rfl ?_
  refine Wk.aload_n (q := 7) d2_6 rfl rfl (by first | rfl | assumption) ?_
  refine Wk.iconst (q := 8) (0) d2_7 rfl (by decide) ?_
  refine Wk.iload_n (q := 9) d2_8 rfl rfl ?_
  refine Wk.static (q := 12) [_, _, _, _, _] _ 0 d2_9 rfl (hw _ (List.mem_of_getElem? (i := 54) rfl)) (hw _ (List.mem_of_getElem? (i := 55) rfl)) (hw _ (List.mem_of_getElem? (i := 52) rfl)) (hw _ (List.mem_of_getElem? (i := 56) rfl)) ar_0 (by decide) rfl rfl rfl rfl (ct_compressL hw hE hc h31 hm) (by first | decide | (dsimp only; omega) | omega) (by first | decide | (dsimp only; omega) | omega) (by first | decide | (dsimp only; omega) | omega) (by first | decide | (dsimp only; omega) | omega) (kv ?_)
  rintro _ _ ⟨rfl, rfl⟩
  refine Wk.istore (q := 14) d2_12 rfl (LS1.there (LS1.there (LS1.there (LS1.there (LS1.here (by first | exact One.u | exact One.val rfl | assumption)))))) ?_
  refine Wk.iload (q := 16) d2_14 rfl rfl ?_
  refine Wk.iload_n (q := 17) d2_16 rfl rfl ?_
  refine Wk.icmp_t (q := 57) d2_17 (by decide) (by decide) (XT.ii_eq_t rfl) ?_
  refine Wk.aload_n (q := 58) d2_57 rfl rfl (by first | rfl | assumption) ?_
  refine Wk.areturn (t := (.array .byte)) d2_58 rfl rfl (by first | rfl | exact narO | exact narA) (by first | rfl | assumption) ?_
  exact ⟨_, rfl, b, rfl, rfl⟩
set_option maxHeartbeats 4000000 in
theorem ct_strInit4 {l : Launch} {Z : State} {a0 : Array Value} (hw : ∀ d ∈ tables_1, d.before a0 Z = true) (hE : EW Z a0 EL0) (F : ∃ z, z ≠ (0 : Int32) ∧ Sta Z Z.heap "java/lang/String" "COMPACT_STRINGS" "Z" (.int z)) {L : Store} {sa ca : Addr} {fa : Bool} {cs : List Int32} (hc : Lat cs) (h0 : cs ≠ []) (N : Nat) (hN : cs.length ≤ N) (hl : cs.length ≤ 4000) (hm : (ca, fa, AR Z .char (cs.map .int)) ∈ L) :
    Ct l Z EL0 (⟨"java/lang/String", "<init>", "([CIILjava/lang/Void;)V"⟩ : MethodName) jdk_42_method_149_code 6 none ({ frames := 4, cells := 1, slots := N, locals := 60 } : Room) #[.ref sa, .ref ca, .int 0, .int cs.length.toInt32, .null] ((sa, true, OB Z "java/lang/String" layS [.null, .int 0]) :: L) (R0 fun M => ∃ b, M = (sa, true, OB Z "java/lang/String" layS [.ref b, .int 0]) :: (b, true, AR Z .byte ((cs.map b8).map .int)) :: L) := by
  have h31 : cs.length < 2 ^ 31 := by omega
  have hp : 0 < cs.length := List.length_pos_iff.mpr h0
  obtain ⟨z, hz, FS⟩ := F
  refine Ct.of (a0 := a0) (Ls := [.val (.ref _), .val (.ref _), .val (.int _), .val (.int _), .val .null, .unset]) (plainFor_of_name pn_1) (fun m => ef_rriin_6 m _ _ _ _) hE ?_
  refine Wk.aload_n (q := 1) d3_0 rfl rfl (by first | rfl | assumption) ?_
  refine Wk.objinit (q := 4) 0 d3_1 rfl (hw _ (List.mem_of_getElem? (i := 17) rfl)) (hw _ (List.mem_of_getElem? (i := 18) rfl)) (hw _ (List.mem_of_getElem? (i := 19) rfl)) rfl (by first | decide | (dsimp only; omega) | omega) rfl (by first | decide | (dsimp only; omega) | omega) ?_
  refine Wk.iload_n (q := 5) d3_4 rfl rfl ?_
  refine Wk.if_t (q := 27) d3_5 (by decide) (by decide) (XT.i0_ne_t (fun h => by have := (n32_inj h31 (by omega : 0 < 2 ^ 31)).mp h; omega)) ?_
  refine Wk.getstatic (q := 30) d3_27 rfl (hw _ (List.mem_of_getElem? (i := 46) rfl)) Via.refl FS ?_
  refine Wk.if_f (q := 33) d3_30 rfl (XT.i0_eq_f hz) ?_
  refine Wk.aload_n (q := 34) d3_33 rfl rfl (by first | rfl | assumption) ?_
  refine Wk.iload_n (q := 35) d3_34 rfl rfl ?_
  refine Wk.iload_n (q := 36) d3_35 rfl rfl ?_
  refine Wk.static (q := 39) [_, _, _] _ 0 d3_36 rfl (hw _ (List.mem_of_getElem? (i := 50) rfl)) (hw _ (List.mem_of_getElem? (i := 51) rfl)) (hw _ (List.mem_of_getElem? (i := 52) rfl)) (hw _ (List.mem_of_getElem? (i := 53) rfl)) ar_1 (by decide) rfl rfl rfl rfl (ct_compressA hw hE hc N hN hl (List.mem_cons_of_mem _ hm)) (by first | decide | (dsimp only; omega) | omega) (by first | decide | (dsimp only; omega) | omega) (by first | decide | (dsimp only; omega) | omega) (by first | decide | (dsimp only; omega) | omega) (kv ?_)
  rintro _ _ ⟨b, rfl, rfl⟩
  refine Wk.astore (q := 41) d3_39 rfl (by first | rfl | assumption) (LS1.there (LS1.there (LS1.there (LS1.there (LS1.there (LS1.here (by first | exact One.u | exact One.val rfl | assumption))))))) ?_
  refine Wk.aload_n (q := 42) d3_41 rfl rfl (by first | rfl | assumption) ?_
  refine Wk.aload (q := 44) d3_42 rfl rfl (by first | rfl | assumption) ?_
  refine Wk.iload_n (q := 45) d3_44 rfl rfl ?_
  rw [show cs.length = ((cs.map b8).map Value.int).length by simp]
  refine Wk.static (q := 48) [_, _] _ 1 d3_45 rfl (hw _ (List.mem_of_getElem? (i := 57) rfl)) (hw _ (List.mem_of_getElem? (i := 58) rfl)) (hw _ (List.mem_of_getElem? (i := 52) rfl)) (hw _ (List.mem_of_getElem? (i := 59) rfl)) ar_2 (by decide) rfl rfl rfl rfl (ct_coderLat hw hE List.mem_cons_self) (by first | decide | (dsimp only; omega) | omega) (by first | decide | (dsimp only; omega) | omega) (by first | decide | (dsimp only; omega) | omega) (by first | decide | (dsimp only; omega) | omega) (kv ?_)
  rintro _ _ ⟨rfl, rfl⟩
  refine Wk.putfield (q := 51) (C := "java/lang/String") (lay := layS) 1 d3_48 rfl (hw _ (List.mem_of_getElem? (i := 27) rfl)) Via.refl (layS_ok hw) (hw _ (List.mem_of_getElem? (i := 8) rfl)) (Or.inr ⟨(hw _ (List.mem_of_getElem? (i := 23) rfl)), rfl, rfl⟩) rfl (by decide +kernel : parseFieldDescriptor "B" = some .byte) (by repeat (first | exact Ex.here | assumption | apply Ex.there)) (VS.there (VS.here)) (by first | rfl | exact narO) (by first | rfl | exact fitO (by assumption) | exact fitA (by assumption)) ?_
  refine Wk.aload_n (q := 52) d3_51 rfl rfl (by first | rfl | assumption) ?_
  refine Wk.aload (q := 54) d3_52 rfl rfl (by first | rfl | assumption) ?_
  refine Wk.putfield (q := 57) (C := "java/lang/String") (lay := layS) 0 d3_54 rfl (hw _ (List.mem_of_getElem? (i := 26) rfl)) Via.refl (layS_ok hw) (hw _ (List.mem_of_getElem? (i := 8) rfl)) (Or.inr ⟨(hw _ (List.mem_of_getElem? (i := 22) rfl)), rfl, rfl⟩) rfl (by decide +kernel : parseFieldDescriptor "[B" = some (.array .byte)) (by repeat (first | exact Ex.here | assumption | apply Ex.there)) (VS.here) (by first | rfl | exact narO) (by first | rfl | exact fitO (by assumption) | exact fitA (by assumption)) ?_
  refine Wk.return_ d3_57 rfl ?_
  exact ⟨rfl, b, rfl⟩
set_option maxHeartbeats 4000000 in
theorem ct_strInit {l : Launch} {Z : State} {a0 : Array Value} (hw : ∀ d ∈ tables_1, d.before a0 Z = true) (hE : EW Z a0 EL0) (F : ∃ z, z ≠ (0 : Int32) ∧ Sta Z Z.heap "java/lang/String" "COMPACT_STRINGS" "Z" (.int z)) {L : Store} {sa ca : Addr} {fa : Bool} {cs : List Int32} (hc : Lat cs) (h0 : cs ≠ []) (N : Nat) (hN : cs.length ≤ N) (hl : cs.length ≤ 4000) (hm : (ca, fa, AR Z .char (cs.map .int)) ∈ L) :
    Ct l Z EL0 (⟨"java/lang/String", "<init>", "([C)V"⟩ : MethodName) jdk_42_method_3_code 2 none ({ frames := 5, cells := 1, slots := N, locals := 77 } : Room) #[.ref sa, .ref ca] ((sa, true, OB Z "java/lang/String" layS [.null, .int 0]) :: L) (R0 fun M => ∃ b, M = (sa, true, OB Z "java/lang/String" layS [.ref b, .int 0]) :: (b, true, AR Z .byte ((cs.map b8).map .int)) :: L) := by
  refine Ct.of (a0 := a0) (Ls := [.val (.ref _), .val (.ref _)]) (plainFor_of_name pn_1) (fun m => ef_rr_2 m _ _) hE ?_
  refine Wk.aload_n (q := 1) d4_0 rfl rfl (by first | rfl | assumption) ?_
  refine Wk.aload_n (q := 2) d4_1 rfl rfl (by first | rfl | assumption) ?_
  refine Wk.iconst (q := 3) (0) d4_2 rfl (by decide) ?_
  refine Wk.aload_n (q := 4) d4_3 rfl rfl (by first | rfl | assumption) ?_
  refine Wk.arraylength (q := 5) d4_4 rfl (by repeat (first | exact List.mem_cons_self | assumption | refine List.mem_cons_of_mem _ ?_)) (show (cs.map Value.int).length.toInt32 = cs.length.toInt32 by simp) ?_
  refine Wk.aconst_null (q := 6) d4_5 rfl ?_
  refine Wk.special (q := 9) [_, _, _, _] _ 0 d4_6 rfl rfl (hw _ (List.mem_of_getElem? (i := 13) rfl)) (hw _ (List.mem_of_getElem? (i := 14) rfl)) (hw _ (List.mem_of_getElem? (i := 9) rfl)) (hw _ (List.mem_of_getElem? (i := 16) rfl)) ar_3 (by decide) rfl rfl rfl rfl (ct_strInit4 hw hE F hc h0 N hN hl hm) (by first | decide | (dsimp only; omega) | omega) (by first | decide | (dsimp only; omega) | omega) (by first | decide | (dsimp only; omega) | omega) (by first | decide | (dsimp only; omega) | omega) (k0 ?_)
  rintro _ ⟨b, rfl⟩
  refine Wk.return_ d4_9 rfl ?_
  exact ⟨rfl, b, rfl⟩

set_option maxHeartbeats 4000000 in
theorem ct_strInit4e {l : Launch} {Z : State} {a0 : Array Value} (hw : ∀ d ∈ tables_1, d.before a0 Z = true) (hE : EW Z a0 EL0) {L : Store} {sa ca : Addr} :
    Ct l Z EL0 (⟨"java/lang/String", "<init>", "([CIILjava/lang/Void;)V"⟩ : MethodName) jdk_42_method_149_code 6 none ({ frames := 4, cells := 4, slots := 8, locals := 60 } : Room) #[.ref sa, .ref ca, .int 0, .int 0, .null] ((sa, true, OB Z "java/lang/String" layS [.null, .int 0]) :: L) (R0 fun M => ∃ b, M = (sa, true, OB Z "java/lang/String" layS [.ref b, .int 0]) :: (b, false, AR Z .byte []) :: L) := by
  refine Ct.of (a0 := a0) (Ls := [.val (.ref _), .val (.ref _), .val (.int _), .val (.int _), .val .null, .unset]) (plainFor_of_name pn_1) (fun m => ef_rriin_6 m _ _ _ _) hE ?_
  refine Wk.aload_n (q := 1) d3_0 rfl rfl (by first | rfl | assumption) ?_
  refine Wk.objinit (q := 4) 0 d3_1 rfl (hw _ (List.mem_of_getElem? (i := 17) rfl)) (hw _ (List.mem_of_getElem? (i := 18) rfl)) (hw _ (List.mem_of_getElem? (i := 19) rfl)) rfl (by first | decide | (dsimp only; omega) | omega) rfl (by first | decide | (dsimp only; omega) | omega) ?_
  refine Wk.iload_n (q := 5) d3_4 rfl rfl ?_
  refine Wk.if_f (q := 8) d3_5 rfl (by decide) ?_
  refine Wk.aload_n (q := 9) d3_8 rfl rfl (by first | rfl | assumption) ?_
  refine Wk.ldcS (q := 11) 0 [] 0 d3_9 rfl (hw _ (List.mem_of_getElem? (i := 20) rfl)) (wS hw) (by decide +kernel) (by decide +kernel) (by decide) (by decide) (by decide +kernel) (by decide) (by first | decide | (dsimp only; omega) | omega) (by first | decide | (dsimp only; omega) | omega) ?_
  intro t1 b1
  refine Wk.getfield (q := 14) (C := "java/lang/String") (lay := layS) 0 d3_11 rfl (hw _ (List.mem_of_getElem? (i := 26) rfl)) Via.refl (by repeat (first | exact List.mem_cons_self | assumption | refine List.mem_cons_of_mem _ ?_)) rfl (by rfl) ?_
  refine Wk.putfield (q := 17) (C := "java/lang/String") (lay := layS) 0 d3_14 rfl (hw _ (List.mem_of_getElem? (i := 26) rfl)) Via.refl (layS_ok hw) (hw _ (List.mem_of_getElem? (i := 8) rfl)) (Or.inr ⟨(hw _ (List.mem_of_getElem? (i := 22) rfl)), rfl, rfl⟩) rfl (by decide +kernel : parseFieldDescriptor "[B" = some (.array .byte)) (by repeat (first | exact Ex.here | assumption | apply Ex.there)) (VS.here) (by first | rfl | exact narO) (by first | rfl | exact fitO (by assumption) | exact fitA (by assumption)) ?_
  refine Wk.aload_n (q := 18) d3_17 rfl rfl (by first | rfl | assumption) ?_
  refine Wk.ldcS (q := 20) 0 [] 0 d3_18 rfl (hw _ (List.mem_of_getElem? (i := 20) rfl)) (wS hw) (by decide +kernel) (by decide +kernel) (by decide) (by decide) (by decide +kernel) (by decide) (by first | decide | (dsimp only; omega) | omega) (by first | decide | (dsimp only; omega) | omega) ?_
  intro t2 b2
  refine Wk.getfield (q := 23) (C := "java/lang/String") (lay := layS) 1 d3_20 rfl (hw _ (List.mem_of_getElem? (i := 27) rfl)) Via.refl (by repeat (first | exact List.mem_cons_self | assumption | refine List.mem_cons_of_mem _ ?_)) rfl (by rfl) ?_
  refine Wk.putfield (q := 26) (C := "java/lang/String") (lay := layS) 1 d3_23 rfl (hw _ (List.mem_of_getElem? (i := 27) rfl)) Via.refl (layS_ok hw) (hw _ (List.mem_of_getElem? (i := 8) rfl)) (Or.inr ⟨(hw _ (List.mem_of_getElem? (i := 23) rfl)), rfl, rfl⟩) rfl (by decide +kernel : parseFieldDescriptor "B" = some .byte) (by repeat (first | exact Ex.here | assumption | apply Ex.there)) (VS.there (VS.here)) (by first | rfl | exact narO) (by first | rfl | exact fitO (by assumption) | exact fitA (by assumption)) ?_
  refine Wk.sub (.cons_cons _ (.cons _ (.cons _ (.cons _ (.refl _))))) ?_
  refine Wk.return_ d3_26 rfl ?_
  exact ⟨rfl, b1, rfl⟩
set_option maxHeartbeats 4000000 in
theorem ct_strInitG {l : Launch} {Z : State} {a0 : Array Value} (hw : ∀ d ∈ tables_1, d.before a0 Z = true) (hE : EW Z a0 EL0) (F : ∃ z, z ≠ (0 : Int32) ∧ Sta Z Z.heap "java/lang/String" "COMPACT_STRINGS" "Z" (.int z)) {L : Store} {sa ca : Addr} {fa : Bool} {cs : List Int32} (hc : Lat cs) (N : Nat) (hN : cs.length ≤ N) (hl : cs.length ≤ 4000) (hm : (ca, fa, AR Z .char (cs.map .int)) ∈ L) :
    Ct l Z EL0 (⟨"java/lang/String", "<init>", "([C)V"⟩ : MethodName) jdk_42_method_3_code 2 none ({ frames := 5, cells := 4, slots := N + 8, locals := 77 } : Room) #[.ref sa, .ref ca] ((sa, true, OB Z "java/lang/String" layS [.null, .int 0]) :: L) (R0 fun M => ∃ b fb, M = (sa, true, OB Z "java/lang/String" layS [.ref b, .int 0]) :: (b, fb, AR Z .byte ((cs.map b8).map .int)) :: L) := by
  refine Ct.of (a0 := a0) (Ls := [.val (.ref _), .val (.ref _)]) (plainFor_of_name pn_1) (fun m => ef_rr_2 m _ _) hE ?_
  refine Wk.aload_n (q := 1) d4_0 rfl rfl (by first | rfl | assumption) ?_
  refine Wk.aload_n (q := 2) d4_1 rfl rfl (by first | rfl | assumption) ?_
  refine Wk.iconst (q := 3) (0) d4_2 rfl (by decide) ?_
  refine Wk.aload_n (q := 4) d4_3 rfl rfl (by first | rfl | assumption) ?_
  refine Wk.arraylength (q := 5) d4_4 rfl (by repeat (first | exact List.mem_cons_self | assumption | refine List.mem_cons_of_mem _ ?_)) (show (cs.map Value.int).length.toInt32 = cs.length.toInt32 by simp) ?_
  refine Wk.aconst_null (q := 6) d4_5 rfl ?_
  by_cases h0 : cs = []
  · subst h0
    refine Wk.special (q := 9) [_, _, _, _] _ 0 d4_6 rfl rfl (hw _ (List.mem_of_getElem? (i := 13) rfl)) (hw _ (List.mem_of_getElem? (i := 14) rfl)) (hw _ (List.mem_of_getElem? (i := 9) rfl)) (hw _ (List.mem_of_getElem? (i := 16) rfl)) ar_3 (by decide) rfl rfl rfl rfl (ct_strInit4e hw hE) (by first | decide | (dsimp only; omega) | omega) (by first | decide | (dsimp only; omega) | omega) (by first | decide | (dsimp only; omega) | omega) (by first | decide | (dsimp only; omega) | omega) (k0 ?_)
    rintro _ ⟨b, rfl⟩
    refine Wk.return_ d4_9 rfl ?_
    exact ⟨rfl, b, false, rfl⟩
  · refine Wk.special (q := 9) [_, _, _, _] _ 0 d4_6 rfl rfl (hw _ (List.mem_of_getElem? (i := 13) rfl)) (hw _ (List.mem_of_getElem? (i := 14) rfl)) (hw _ (List.mem_of_getElem? (i := 9) rfl)) (hw _ (List.mem_of_getElem? (i := 16) rfl)) ar_3 (by decide) rfl rfl rfl rfl (ct_strInit4 hw hE F hc h0 N hN hl hm) (by first | decide | (dsimp only; omega) | omega) (by first | decide | (dsimp only; omega) | omega) (by first | decide | (dsimp only; omega) | omega) (by first | decide | (dsimp only; omega) | omega) (k0 ?_)
    rintro _ ⟨b, rfl⟩
    refine Wk.return_ d4_9 rfl ?_
    exact ⟨rfl, b, true, rfl⟩

def Chars (cs : List Int32) : Prop := ∀ c ∈ cs, 0 ≤ c.toInt ∧ c.toInt < 65536
def lo8 (c : Int32) : Int32 := (c >>> ((0 : Int32) &&& 31)).toInt8.toInt32
def hi8 (c : Int32) : Int32 := (c >>> ((8 : Int32) &&& 31)).toInt8.toInt32
def u16 : List Int32 → List Int32
  | [] => []
  | c :: cs => lo8 c :: hi8 c :: u16 cs
theorem u16_len (cs : List Int32) : (u16 cs).length = 2 * cs.length := by
  induction cs with
  | nil => rfl
  | cons c cs ih => simp only [u16, List.length_cons, ih]; omega
theorem u16_app (xs ys : List Int32) : u16 (xs ++ ys) = u16 xs ++ u16 ys := by
  induction xs with
  | nil => rfl
  | cons c cs ih => simp only [u16, List.cons_append, ih]
theorem u16_lo (cs : List Int32) (i : Nat) (h : i < cs.length) : (u16 cs)[2 * i]? = some (lo8 cs[i]) := by
  induction cs generalizing i with
  | nil => simp at h
  | cons c cs ih =>
    cases i with
    | zero => rfl
    | succ i =>
      have h' : i < cs.length := by simpa using h
      have e := ih i h'
      rw [show 2 * (i + 1) = 2 * i + 2 by omega]
      simpa [u16] using e
theorem u16_hi (cs : List Int32) (i : Nat) (h : i < cs.length) : (u16 cs)[2 * i + 1]? = some (hi8 cs[i]) := by
  induction cs generalizing i with
  | nil => simp at h
  | cons c cs ih =>
    cases i with
    | zero => rfl
    | succ i =>
      have h' : i < cs.length := by simpa using h
      have e := ih i h'
      rw [show 2 * (i + 1) + 1 = (2 * i + 1) + 2 by omega]
      simpa [u16] using e
theorem glue16 {c : Int32} (h : 0 ≤ c.toInt ∧ c.toInt < 65536) : (((lo8 c &&& 255) <<< ((0 : Int32) &&& 31)) ||| ((hi8 c &&& 255) <<< ((8 : Int32) &&& 31))).toUInt32.toUInt16.toUInt32.toInt32 = c := by
  apply Int32.toInt_inj.mp
  have a1 := c_ishr c 0 0 (by decide)
  have a2 := c_ishr c 8 8 (by decide)
  have b1 := c_i2b (c >>> ((0 : Int32) &&& 31))
  have b2 := c_i2b (c >>> ((8 : Int32) &&& 31))
  have d1 := c_mask (lo8 c) 255 8 (by decide) (by decide)
  have d2 := c_mask (hi8 c) 255 8 (by decide) (by decide)
  have e1 := c_ishl (lo8 c &&& 255) 0 0 (by decide)
  have e2 := c_ishl (hi8 c &&& 255) 8 8 (by decide)
  have r1 := rng32 ((lo8 c &&& 255) <<< ((0 : Int32) &&& 31))
  have r2 := rng32 ((hi8 c &&& 255) <<< ((8 : Int32) &&& 31))
  have f := c_or' ((lo8 c &&& 255) <<< ((0 : Int32) &&& 31)) ((hi8 c &&& 255) <<< ((8 : Int32) &&& 31)) 8 (by decide) 256 (by decide)
  have g := c_i2c (((lo8 c &&& 255) <<< ((0 : Int32) &&& 31)) ||| ((hi8 c &&& 255) <<< ((8 : Int32) &&& 31)))
  have r3 := rng32 (((lo8 c &&& 255) <<< ((0 : Int32) &&& 31)) ||| ((hi8 c &&& 255) <<< ((8 : Int32) &&& 31)))
  have hl : (lo8 c).toInt = (c >>> ((0 : Int32) &&& 31)).toInt8.toInt32.toInt := rfl
  have hh : (hi8 c).toInt = (c >>> ((8 : Int32) &&& 31)).toInt8.toInt32.toInt := rfl
  simp only [pw0, pw1, pw8, pw31] at a1 a2 d1 d2 e1 e2
  generalize ((lo8 c &&& 255) <<< ((0 : Int32) &&& 31) ||| (hi8 c &&& 255) <<< ((8 : Int32) &&& 31)).toUInt32.toUInt16.toUInt32.toInt32.toInt = w at *
  generalize ((lo8 c &&& 255) <<< ((0 : Int32) &&& 31) ||| (hi8 c &&& 255) <<< ((8 : Int32) &&& 31)).toInt = w' at *
  generalize ((lo8 c &&& 255) <<< ((0 : Int32) &&& 31)).toInt = p at *
  generalize ((hi8 c &&& 255) <<< ((8 : Int32) &&& 31)).toInt = p' at *
  generalize (lo8 c &&& 255).toInt = q at *
  generalize (hi8 c &&& 255).toInt = q' at *
  generalize (c >>> ((0 : Int32) &&& 31)).toInt8.toInt32.toInt = s at *
  generalize (c >>> ((8 : Int32) &&& 31)).toInt8.toInt32.toInt = s' at *
  generalize (c >>> ((0 : Int32) &&& 31)).toInt = t at *
  generalize (c >>> ((8 : Int32) &&& 31)).toInt = t' at *
  generalize (lo8 c).toInt = u at *
  generalize (hi8 c).toInt = u' at *
  generalize c.toInt = z at *
  have hp : p = q := by omega
  have hp' : p' = q' * 256 := by omega
  have f' := f (by omega) (by omega) (by omega)
  omega
theorem nchar16 {c : Int32} (h : 0 ≤ c.toInt ∧ c.toInt < 65536) : nar .char c = c := by
  apply Int32.toInt_inj.mp
  have q := c_i2c c
  show c.toUInt32.toUInt16.toUInt32.toInt32.toInt = c.toInt
  omega
theorem shl1 {n : Nat} (h : n < 2 ^ 30) : n.toInt32 <<< ((1 : Int32) &&& 31) = (2 * n).toInt32 := by
  apply Int32.toInt_inj.mp
  have a := c_ishl n.toInt32 1 1 (by decide)
  have r := rng32 (n.toInt32 <<< ((1 : Int32) &&& 31))
  rw [n32 (show n < 2 ^ 31 by omega)] at a
  rw [n32 (show 2 * n < 2 ^ 31 by omega)]
  simp only [pw0, pw1, pw8, pw31] at a
  omega
theorem set_u16 (cs : List Int32) (i : Nat) (h : i < cs.length) : (((u16 (cs.take i)).map Value.int ++ List.replicate (2 * (cs.length - i)) (Value.int 0)).set (2 * i) (.int (lo8 cs[i]))).set (2 * i + 1) (.int (hi8 cs[i])) = (u16 (cs.take (i + 1))).map Value.int ++ List.replicate (2 * (cs.length - (i + 1))) (Value.int 0) := by
  have h1 : ((u16 (cs.take i)).map Value.int).length = 2 * i := by simp [u16_len]; omega
  rw [List.set_append_right _ _ (by omega), h1, Nat.sub_self, show 2 * (cs.length - i) = (2 * (cs.length - (i + 1)) + 1) + 1 by omega, List.replicate_succ, List.replicate_succ, List.set_cons_zero, List.set_append_right _ _ (by omega), h1, show 2 * i + 1 - 2 * i = 1 by omega, List.set_cons_succ, List.set_cons_zero,
    List.take_succ_eq_append_getElem h, u16_app, List.map_append, List.append_assoc]
  rfl
/-- the statics of StringUTF16 -/
def FU (Z : State) : Prop := Sta Z Z.heap "java/lang/StringUTF16" "$assertionsDisabled" "Z" (.int 1) ∧ Sta Z Z.heap "java/lang/StringUTF16" "HI_BYTE_SHIFT" "I" (.int 0) ∧ Sta Z Z.heap "java/lang/StringUTF16" "LO_BYTE_SHIFT" "I" (.int 8)
theorem FU_of {Z : State} {args : Array Value} (h1 : (Jvm.Cond.initializedFor "java/lang/StringUTF16" "$assertionsDisabled" "Z").before args Z = true) (h2 : (Jvm.Cond.eq (Term.static "java/lang/StringUTF16" "$assertionsDisabled" "Z") (.int 1)).before args Z = true) (h3 : (Jvm.Cond.initializedFor "java/lang/StringUTF16" "HI_BYTE_SHIFT" "I").before args Z = true) (h4 : (Jvm.Cond.eq (Term.static "java/lang/StringUTF16" "HI_BYTE_SHIFT" "I") (.int 0)).before args Z = true) (h5 : (Jvm.Cond.initializedFor "java/lang/StringUTF16" "LO_BYTE_SHIFT" "I").before args Z = true) (h6 : (Jvm.Cond.eq (Term.static "java/lang/StringUTF16" "LO_BYTE_SHIFT" "I") (.int 8)).before args Z = true) : FU Z :=
  ⟨staI h1 h2, staI h3 h4, staI h5 h6⟩
theorem ct_nbl {l : Launch} {Z : State} {a0 : Array Value} (hw : ∀ d ∈ tables_1, d.before a0 Z = true) (hE : EW Z a0 EL0) {L : Store} {n : Nat} (hn : n < 1000000) : Ct l Z EL0 (⟨"java/lang/StringUTF16", "newBytesLength", "(I)I"⟩ : MethodName) jdk_52_method_3_code 1 (some .int) ({ frames := 0, cells := 0, slots := 0, locals := 0 } : Room) #[.int n.toInt32] L (RV fun u M => u = .int (2 * n).toInt32 ∧ M = L) := by
  refine Ct.of (a0 := a0) (Ls := [.val (.int _)]) (plainFor_of_name pn_0) (fun m => ef_i_1 m _) hE ?_
  refine Wk.iload_n (q := 1) d5_0 rfl rfl ?_
  refine Wk.if_t (q := 12) d5_1 (by decide) (by decide) (XT.i0_ge_t (n32_nn (by omega))) ?_
  refine Wk.iload_n (q := 13) d5_12 rfl rfl ?_
  refine Wk.ldc_int (q := 15) d5_13 rfl (hw _ (List.mem_of_getElem? (i := 118) rfl)) ?_
  refine Wk.icmp_t (q := 55) d5_15 (by decide) (by decide) (XT.ii_lt_t ((n32_lt (show n < 2 ^ 31 by omega) (show 1073741823 < 2 ^ 31 by decide)).mpr (by omega))) ?_
  refine Wk.iload_n (q := 56) d5_55 rfl rfl ?_
  refine Wk.iconst (q := 57) (1) d5_56 rfl (by decide) ?_
  refine Wk.ishl (q := 58) d5_57 rfl ?_
  rw [shl1 (show n < 2 ^ 30 by omega)]
  refine Wk.ireturn (t := .int) d5_58 rfl (by simp) (by rfl) ?_
  exact ⟨_, rfl, rfl, rfl⟩
theorem ct_nbf {l : Launch} {Z : State} {a0 : Array Value} (hw : ∀ d ∈ tables_1, d.before a0 Z = true) (hE : EW Z a0 EL0) {L : Store} {n : Nat} (N : Nat) (hN : 2 * n ≤ N) (hn : n < 1000000) : Ct l Z EL0 (⟨"java/lang/StringUTF16", "newBytesFor", "(I)[B"⟩ : MethodName) jdk_52_method_2_code 1 (some (.array .byte)) ({ frames := 1, cells := 1, slots := N, locals := 12 } : Room) #[.int n.toInt32] L (RV fun u M => ∃ b, u = .ref b ∧ M = (b, true, AR Z .byte (List.replicate (2 * n) (.int 0))) :: L) := by
  refine Ct.of (a0 := a0) (Ls := [.val (.int _)]) (plainFor_of_name pn_0) (fun m => ef_i_1 m _) hE ?_
  refine Wk.iload_n (q := 1) d6_0 rfl rfl ?_
  refine Wk.static (q := 4) [_] _ 0 d6_1 rfl (hw _ (List.mem_of_getElem? (i := 115) rfl)) (hw _ (List.mem_of_getElem? (i := 116) rfl)) (hw _ (List.mem_of_getElem? (i := 52) rfl)) (hw _ (List.mem_of_getElem? (i := 117) rfl)) ar_4 (by decide) rfl rfl rfl rfl (ct_nbl hw hE hn) (by first | decide | (dsimp only; omega) | omega) (by first | decide | (dsimp only; omega) | omega) (by first | decide | (dsimp only; omega) | omega) (by first | decide | (dsimp only; omega) | omega) (kv ?_)
  rintro _ _ ⟨rfl, rfl⟩
  refine Wk.newarray (q := 6) .byte ((2 * n)) (List.replicate (2 * n) (.int 0)) d6_4 rfl rfl rfl (hw _ (List.mem_of_getElem? (i := 21) rfl)) (n32_nn (by omega)) (n32_nat (by omega)) (by omega) (by first | decide | (dsimp only; omega) | omega) (by first | decide | (dsimp only; omega) | omega) ?_
  intro b
  refine Wk.areturn (t := (.array .byte)) d6_6 rfl rfl (by first | rfl | exact narO | exact narA) (by first | rfl | assumption) ?_
  exact ⟨_, rfl, b, rfl, rfl⟩
set_option maxHeartbeats 4000000 in
theorem ct_putChar {l : Launch} {Z : State} {a0 : Array Value} (hw : ∀ d ∈ tables_1, d.before a0 Z = true) (hE : EW Z a0 EL0) (hU : FU Z) {L : Store} {b : Addr} {vs : List Value} {i : Nat} {c : Int32} (hi : 2 * i + 1 < vs.length) (hl : vs.length < 2000000) : Ct l Z EL0 (⟨"java/lang/StringUTF16", "putChar", "([BII)V"⟩ : MethodName) jdk_52_method_4_code 3 none ({ frames := 1, cells := 0, slots := 0, locals := 13 } : Room) #[.ref b, .int i.toInt32, .int c] ((b, true, AR Z .byte vs) :: L) (R0 fun M => M = (b, true, AR Z .byte ((vs.set (2 * i) (.int (lo8 c))).set (2 * i + 1) (.int (hi8 c)))) :: L) := by
  obtain ⟨U1, U2, U3⟩ := hU
  refine Ct.of (a0 := a0) (Ls := [.val (.ref _), .val (.int _), .val (.int _)]) (plainFor_of_name pn_0) (fun m => ef_rii_3 m _ _ _) hE ?_
  refine Wk.getstatic (q := 3) d7_0 rfl (hw _ (List.mem_of_getElem? (i := 122) rfl)) Via.refl U1 ?_
  refine Wk.if_t (q := 28) d7_3 (by decide) (by decide) (by decide) ?_
  refine Wk.iload_n (q := 29) d7_28 rfl rfl ?_
  refine Wk.iconst (q := 30) (1) d7_29 rfl (by decide) ?_
  refine Wk.ishl (q := 31) d7_30 rfl ?_
  rw [shl1 (show i < 2 ^ 30 by omega)]
  refine Wk.istore_n (q := 32) d7_31 rfl (LS1.there (LS1.here (by first | exact One.u | exact One.val rfl | assumption))) ?_
  refine Wk.aload_n (q := 33) d7_32 rfl rfl (by first | rfl | assumption) ?_
  refine Wk.iload_n (q := 34) d7_33 rfl rfl ?_
  refine Wk.iinc (q := 37) (1) d7_34 rfl (by decide) rfl (LS1.there (LS1.here (by first | exact One.u | exact One.val rfl | assumption))) ?_
  refine Wk.iload_n (q := 38) d7_37 rfl rfl ?_
  rw [n32_succ]
  refine Wk.getstatic (q := 41) d7_38 rfl (hw _ (List.mem_of_getElem? (i := 123) rfl)) Via.refl U2 ?_
  refine Wk.ishr (q := 42) d7_41 rfl ?_
  refine Wk.i2b (q := 43) d7_42 rfl ?_
  refine Wk.bastore (q := 44) ((2 * i)) d7_43 rfl (by repeat (first | exact Ex.here | assumption | apply Ex.there)) (n32_nn (by omega)) (n32_nat (by omega)) (nar8 _) (VS.of (by omega)) ?_
  refine Wk.aload_n (q := 45) d7_44 rfl rfl (by first | rfl | assumption) ?_
  refine Wk.iload_n (q := 46) d7_45 rfl rfl ?_
  refine Wk.iload_n (q := 47) d7_46 rfl rfl ?_
  refine Wk.getstatic (q := 50) d7_47 rfl (hw _ (List.mem_of_getElem? (i := 124) rfl)) Via.refl U3 ?_
  refine Wk.ishr (q := 51) d7_50 rfl ?_
  refine Wk.i2b (q := 52) d7_51 rfl ?_
  refine Wk.bastore (q := 53) ((2 * i + 1)) d7_52 rfl (by repeat (first | exact Ex.here | assumption | apply Ex.there)) (n32_nn (by omega)) (n32_nat (by omega)) (nar8 _) (VS.of (by simp; omega)) ?_
  refine Wk.return_ d7_53 rfl ?_
  exact ⟨rfl, rfl⟩
set_option maxHeartbeats 4000000 in
theorem ct_getChar {l : Launch} {Z : State} {a0 : Array Value} (hw : ∀ d ∈ tables_1, d.before a0 Z = true) (hE : EW Z a0 EL0) (hU : FU Z) {L : Store} {b : Addr} {fb : Bool} {cs : List Int32} (hc : Chars cs) (hl : cs.length < 1000000) {i : Nat} (hi : i < cs.length) (hm : (b, fb, AR Z .byte ((u16 cs).map .int)) ∈ L) : Ct l Z EL0 (⟨"java/lang/StringUTF16", "getChar", "([BI)C"⟩ : MethodName) jdk_52_method_5_code 2 (some .char) ({ frames := 1, cells := 0, slots := 0, locals := 13 } : Room) #[.ref b, .int i.toInt32] L (RV fun u M => u = .int cs[i] ∧ M = L) := by
  obtain ⟨U1, U2, U3⟩ := hU
  have h16 := hc cs[i] (List.getElem_mem hi)
  refine Ct.of (a0 := a0) (Ls := [.val (.ref _), .val (.int _)]) (plainFor_of_name pn_0) (fun m => ef_ri_2 m _ _) hE ?_
  refine Wk.getstatic (q := 3) d8_0 rfl (hw _ (List.mem_of_getElem? (i := 122) rfl)) Via.refl U1 ?_
  refine Wk.if_t (q := 28) d8_3 (by decide) (by decide) (by decide) ?_
  refine Wk.iload_n (q := 29) d8_28 rfl rfl ?_
  refine Wk.iconst (q := 30) (1) d8_29 rfl (by decide) ?_
  refine Wk.ishl (q := 31) d8_30 rfl ?_
  rw [shl1 (show i < 2 ^ 30 by omega)]
  refine Wk.istore_n (q := 32) d8_31 rfl (LS1.there (LS1.here (by first | exact One.u | exact One.val rfl | assumption))) ?_
  refine Wk.aload_n (q := 33) d8_32 rfl rfl (by first | rfl | assumption) ?_
  refine Wk.iload_n (q := 34) d8_33 rfl rfl ?_
  refine Wk.iinc (q := 37) (1) d8_34 rfl (by decide) rfl (LS1.there (LS1.here (by first | exact One.u | exact One.val rfl | assumption))) ?_
  rw [n32_succ]
  refine Wk.baload (q := 38) ((2 * i)) d8_37 rfl (by repeat (first | exact List.mem_cons_self | assumption | refine List.mem_cons_of_mem _ ?_)) (n32_nn (by omega)) (n32_nat (by omega)) (show ((u16 cs).map Value.int)[2 * i]? = some (.int (lo8 cs[i])) by simp [u16_lo cs i hi]) ?_
  refine Wk.sipush (q := 41) (255) d8_38 rfl (by decide) ?_
  refine Wk.iand (q := 42) d8_41 rfl ?_
  refine Wk.getstatic (q := 45) d8_42 rfl (hw _ (List.mem_of_getElem? (i := 123) rfl)) Via.refl U2 ?_
  refine Wk.ishl (q := 46) d8_45 rfl ?_
  refine Wk.aload_n (q := 47) d8_46 rfl rfl (by first | rfl | assumption) ?_
  refine Wk.iload_n (q := 48) d8_47 rfl rfl ?_
  refine Wk.baload (q := 49) ((2 * i + 1)) d8_48 rfl (by repeat (first | exact List.mem_cons_self | assumption | refine List.mem_cons_of_mem _ ?_)) (n32_nn (by omega)) (n32_nat (by omega)) (show ((u16 cs).map Value.int)[2 * i + 1]? = some (.int (hi8 cs[i])) by simp [u16_hi cs i hi]) ?_
  refine Wk.sipush (q := 52) (255) d8_49 rfl (by decide) ?_
  refine Wk.iand (q := 53) d8_52 rfl ?_
  refine Wk.getstatic (q := 56) d8_53 rfl (hw _ (List.mem_of_getElem? (i := 124) rfl)) Via.refl U3 ?_
  refine Wk.ishl (q := 57) d8_56 rfl ?_
  refine Wk.ior (q := 58) d8_57 rfl ?_
  refine Wk.i2c (q := 59) d8_58 rfl ?_
  rw [glue16 h16]
  refine Wk.ireturn (t := .char) d8_59 rfl (by simp) (congrArg Value.int (nchar16 h16)) ?_
  exact ⟨_, rfl, rfl, rfl⟩
set_option maxHeartbeats 4000000 in
theorem wk_toBytes {l : Launch} {Z : State} {a0 : Array Value} (hw : ∀ d ∈ tables_1, d.before a0 Z = true) (hE : EW Z a0 EL0) (hU : FU Z) {L : Store} {ca b : Addr} {fa : Bool} {cs : List Int32} (hl : cs.length < 1000000) (hm : (ca, fa, AR Z .char (cs.map .int)) ∈ L) {N cb sb : Nat} : ∀ (k i : Nat), i + k = cs.length →
    Wk l Z a0 EL0 (⟨"java/lang/StringUTF16", "toBytes", "([CII)[B"⟩ : MethodName) jdk_52_method_14_code 5 (some (.array .byte)) ({ frames := 2, cells := 1, slots := N, locals := 27 } : Room) (RV fun u M => ∃ b, u = .ref b ∧ M = (b, true, AR Z .byte ((u16 cs).map .int)) :: L) ((b, true, AR Z .byte ((u16 (cs.take i)).map Value.int ++ List.replicate (2 * (cs.length - i)) (.int 0))) :: L) cb sb 8 [.val (.ref ca), .val (.int i.toInt32), .val (.int cs.length.toInt32), .val (.ref b), .val (.int i.toInt32)] [] := by
  intro k
  induction k with
  | zero =>
    intro i hi
    have hi' : i = cs.length := by omega
    subst hi'
    refine Wk.iload (q := 10) d9_8 rfl rfl ?_
    refine Wk.iload_n (q := 11) d9_10 rfl rfl ?_
    refine Wk.icmp_t (q := 32) d9_11 (by decide) (by decide) (XT.ii_ge_t (fun h => by rw [n32_lt (by omega) (by omega)] at h; omega)) ?_
    refine Wk.aload_n (q := 33) d9_32 rfl rfl (by first | rfl | assumption) ?_
    refine Wk.areturn (t := (.array .byte)) d9_33 rfl rfl (by first | rfl | exact narO | exact narA) (by first | rfl | assumption) ?_
    refine ⟨_, rfl, b, rfl, ?_⟩
    simp
  | succ k ih =>
    intro i hi
    have h1 : i < cs.length := by omega
    have h3 : i < 2 ^ 31 := by omega
    refine Wk.iload (q := 10) d9_8 rfl rfl ?_
    refine Wk.iload_n (q := 11) d9_10 rfl rfl ?_
    refine Wk.icmp_f (q := 14) d9_11 rfl (XT.ii_ge_f ((n32_lt h3 (by omega)).mpr h1)) ?_
    refine Wk.aload_n (q := 15) d9_14 rfl rfl (by first | rfl | assumption) ?_
    refine Wk.iload (q := 17) d9_15 rfl rfl ?_
    refine Wk.aload_n (q := 18) d9_17 rfl rfl (by first | rfl | assumption) ?_
    refine Wk.iload_n (q := 19) d9_18 rfl rfl ?_
    refine Wk.caload (q := 20) (i) d9_19 rfl (by repeat (first | exact List.mem_cons_self | assumption | refine List.mem_cons_of_mem _ ?_)) (n32_nn h3) (n32_nat h3) (show (cs.map Value.int)[i]? = some (.int cs[i]) by simp [h1]) ?_
    refine Wk.static (q := 23) [_, _, _] _ 0 d9_20 rfl (hw _ (List.mem_of_getElem? (i := 119) rfl)) (hw _ (List.mem_of_getElem? (i := 120) rfl)) (hw _ (List.mem_of_getElem? (i := 52) rfl)) (hw _ (List.mem_of_getElem? (i := 121) rfl)) ar_5 (by decide) rfl rfl rfl rfl (ct_putChar hw hE hU (by simp [u16_len]; omega) (by simp [u16_len]; omega)) (by first | decide | (dsimp only; omega) | omega) (by first | decide | (dsimp only; omega) | omega) (by first | decide | (dsimp only; omega) | omega) (by first | decide | (dsimp only; omega) | omega) (k0 ?_)
    rintro _ rfl
    refine Wk.iinc (q := 26) (1) d9_23 rfl (by decide) rfl (LS1.there (LS1.here (by first | exact One.u | exact One.val rfl | assumption))) ?_
    refine Wk.iinc (q := 29) (1) d9_26 rfl (by decide) rfl (LS1.there (LS1.there (LS1.there (LS1.there (LS1.here (by first | exact One.u | exact One.val rfl | assumption)))))) ?_
    refine Wk.goto (q := 8) d9_29 (by decide) (by decide) ?_
    rw [n32_succ, set_u16 cs i h1]
    exact ih (i + 1) (by omega)
set_option maxHeartbeats 4000000 in
theorem ct_toBytes {l : Launch} {Z : State} {a0 : Array Value} (hw : ∀ d ∈ tables_1, d.before a0 Z = true) (hE : EW Z a0 EL0) (hU : FU Z) {L : Store} {ca : Addr} {fa : Bool} {cs : List Int32} (N : Nat) (hN : 2 * cs.length ≤ N) (hl : cs.length < 1000000) (hm : (ca, fa, AR Z .char (cs.map .int)) ∈ L) :
    Ct l Z EL0 (⟨"java/lang/StringUTF16", "toBytes", "([CII)[B"⟩ : MethodName) jdk_52_method_14_code 5 (some (.array .byte)) ({ frames := 2, cells := 1, slots := N, locals := 27 } : Room) #[.ref ca, .int 0, .int cs.length.toInt32] L (RV fun u M => ∃ b, u = .ref b ∧ M = (b, true, AR Z .byte ((u16 cs).map .int)) :: L) := by
  refine Ct.of (a0 := a0) (Ls := [.val (.ref _), .val (.int _), .val (.int _), .unset, .unset]) (plainFor_of_name pn_0) (fun m => ef_rii_5 m _ _ _) hE ?_
  refine Wk.iload_n (q := 1) d9_0 rfl rfl ?_
  refine Wk.static (q := 4) [_] _ 0 d9_1 rfl (hw _ (List.mem_of_getElem? (i := 112) rfl)) (hw _ (List.mem_of_getElem? (i := 113) rfl)) (hw _ (List.mem_of_getElem? (i := 52) rfl)) (hw _ (List.mem_of_getElem? (i := 114) rfl)) ar_6 (by decide) rfl rfl rfl rfl (ct_nbf hw hE N hN hl) (by first | decide | (dsimp only; omega) | omega) (by first | decide | (dsimp only; omega) | omega) (by first | decide | (dsimp only; omega) | omega) (by first | decide | (dsimp only; omega) | omega) (kv ?_)
  rintro _ _ ⟨b, rfl, rfl⟩
  refine Wk.astore_n (q := 5) d9_4 rfl (by first | rfl | assumption) (LS1.there (LS1.there (LS1.there (LS1.here (by first | exact One.u | exact One.val rfl | assumption))))) ?_
  refine Wk.iconst (q := 6) (0) d9_5 rfl (by decide) ?_
  refine Wk.istore (q := 8) d9_6 rfl (LS1.there (LS1.there (LS1.there (LS1.there (LS1.here (by first | exact One.u | exact One.val rfl | assumption)))))) ?_
  have h := wk_toBytes hw hE hU (l := l) (b := b) (N := N) (cb := 1 - 1) (sb := N - N) hl hm cs.length 0 (by omega)
  simp only [List.take_zero, u16, List.map_nil, List.nil_append, Nat.sub_zero] at h
  exact h

theorem first_big (cs : List Int32) (hc : Chars cs) (hn : ¬ Lat cs) : ∃ (p : Nat) (hp : p < cs.length), Lat (cs.take p) ∧ (255 : Int32) < cs[p] := by
  induction cs with
  | nil => exact absurd lat_nil hn
  | cons c cs ih =>
    by_cases h : 0 ≤ c.toInt ∧ c.toInt < 256
    · have hn' : ¬ Lat cs := fun q => hn (lat_cons h q)
      obtain ⟨p, hp, h1, h2⟩ := ih (fun x hx => hc x (List.mem_cons_of_mem _ hx)) hn'
      exact ⟨p + 1, by simpa using hp, by simpa using lat_cons h h1, by simpa using h2⟩
    · have := hc c List.mem_cons_self
      exact ⟨0, by simp, lat_nil, by rw [Int32.lt_iff_toInt_lt]; show (255 : Int) < c.toInt; omega⟩
theorem lat_get {cs : List Int32} {p i : Nat} (hp : p < cs.length) (h : Lat (cs.take p)) (hi : i < p) : 0 ≤ (cs[i]'(by omega)).toInt ∧ (cs[i]'(by omega)).toInt < 256 := h _ (by
  rw [List.mem_iff_getElem]
  exact ⟨i, by simp; omega, by simp⟩)
def cdr (k : Bool) : Int32 := if k then 1 else 0
def enc (k : Bool) (cs : List Int32) : List Int32 := if k then u16 cs else cs.map b8
set_option maxHeartbeats 4000000 in
theorem wk_compressN {l : Launch} {Z : State} {a0 : Array Value} (hw : ∀ d ∈ tables_1, d.before a0 Z = true) (hE : EW Z a0 EL0) {L : Store} {ca b : Addr} {fa : Bool} {cs : List Int32} {p : Nat} (hp : p < cs.length) (hlt : Lat (cs.take p)) (hbig : (255 : Int32) < cs[p]) (hl : cs.length < 2 ^ 31) (hm : (ca, fa, AR Z .char (cs.map .int)) ∈ L) {cb sb : Nat} : ∀ (k i : Nat) (o : Slot) (vs : List Value), vs.length = cs.length → i + k = p → One o →
    Wk l Z a0 EL0 (⟨"java/lang/StringUTF16", "compress", "([CI[BII)I"⟩ : MethodName) jdk_52_method_21_code 7 (some .int) ({ frames := 0, cells := 0, slots := 0, locals := 0 } : Room) (RV fun u M => u = .int p.toInt32 ∧ ∃ vs, M = (b, true, AR Z .byte vs) :: L) ((b, true, AR Z .byte vs) :: L) cb sb 3 [.val (.ref ca), .val (.int i.toInt32), .val (.ref b), .val (.int i.toInt32), .val (.int cs.length.toInt32), .val (.int i.toInt32), o] [] := by
  intro k
  induction k with
  | zero =>
    intro i o vs hvs hi ho
    have hi' : i = p := by omega
    subst hi'
    have hi3 : i < 2 ^ 31 := by omega
    have hv : (cs.map Value.int)[i]? = some (.int cs[i]) := by simp [hp]
    refine Wk.iload (q := 5) d0_3 rfl rfl ?_
    refine Wk.iload (q := 7) d0_5 rfl rfl ?_
    refine Wk.icmp_f (q := 10) d0_7 rfl (XT.ii_ge_f ((n32_lt hi3 hl).mpr hp)) ?_
    refine Wk.aload_n (q := 11) d0_10 rfl rfl (by first | rfl | assumption) ?_
    refine Wk.iload_n (q := 12) d0_11 rfl rfl ?_
    refine Wk.caload (q := 13) (i) d0_12 rfl (by repeat (first | exact List.mem_cons_self | assumption | refine List.mem_cons_of_mem _ ?_)) (n32_nn hi3) (n32_nat hi3) hv ?_
    refine Wk.istore (q := 15) d0_13 rfl (LS1.there (LS1.there (LS1.there (LS1.there (LS1.there (LS1.there (LS1.here (by first | exact One.u | exact One.val rfl | assumption)))))))) ?_
    refine Wk.iload (q := 17) d0_15 rfl rfl ?_
    refine Wk.sipush (q := 20) (255) d0_17 rfl (by decide) ?_
    refine Wk.icmp_f (q := 23) d0_20 rfl (XT.ii_le_f hbig) ?_
    refine Wk.iload (q := 25) d0_23 rfl rfl ?_
    refine Wk.ireturn (t := .int) d0_25 rfl (by simp) (by rfl) ?_
    exact ⟨_, rfl, rfl, vs, rfl⟩
  | succ k ih =>
    intro i o vs hvs hi ho
    have hil : i < cs.length := by omega
    have hi3 : i < 2 ^ 31 := by omega
    have hv : (cs.map Value.int)[i]? = some (.int cs[i]) := by simp [hil]
    have hci := lat_get hp hlt (show i < p by omega)
    refine Wk.iload (q := 5) d0_3 rfl rfl ?_
    refine Wk.iload (q := 7) d0_5 rfl rfl ?_
    refine Wk.icmp_f (q := 10) d0_7 rfl (XT.ii_ge_f ((n32_lt hi3 hl).mpr hil)) ?_
    refine Wk.aload_n (q := 11) d0_10 rfl rfl (by first | rfl | assumption) ?_
    refine Wk.iload_n (q := 12) d0_11 rfl rfl ?_
    refine Wk.caload (q := 13) (i) d0_12 rfl (by repeat (first | exact List.mem_cons_self | assumption | refine List.mem_cons_of_mem _ ?_)) (n32_nn hi3) (n32_nat hi3) hv ?_
    refine Wk.istore (q := 15) d0_13 rfl (LS1.there (LS1.there (LS1.there (LS1.there (LS1.there (LS1.there (LS1.here (by first | exact One.u | exact One.val rfl | assumption)))))))) ?_
    refine Wk.iload (q := 17) d0_15 rfl rfl ?_
    refine Wk.sipush (q := 20) (255) d0_17 rfl (by decide) ?_
    refine Wk.icmp_t (q := 26) d0_20 (by decide) (by decide) (XT.ii_le_t (lat_le hci)) ?_
    refine Wk.aload_n (q := 27) d0_26 rfl rfl (by first | rfl | assumption) ?_
    refine Wk.iload_n (q := 28) d0_27 rfl rfl ?_
    refine Wk.iload (q := 30) d0_28 rfl rfl ?_
    refine Wk.i2b (q := 31) d0_30 rfl ?_
    refine Wk.bastore (q := 32) (i) d0_31 rfl (by repeat (first | exact Ex.here | assumption | apply Ex.there)) (n32_nn hi3) (n32_nat hi3) (nar8 _) (VS.of (by omega)) ?_
    refine Wk.iinc (q := 35) (1) d0_32 rfl (by decide) rfl (LS1.there (LS1.here (by first | exact One.u | exact One.val rfl | assumption))) ?_
    refine Wk.iinc (q := 38) (1) d0_35 rfl (by decide) rfl (LS1.there (LS1.there (LS1.there (LS1.here (by first | exact One.u | exact One.val rfl | assumption))))) ?_
    refine Wk.iinc (q := 41) (1) d0_38 rfl (by decide) rfl (LS1.there (LS1.there (LS1.there (LS1.there (LS1.there (LS1.here (by first | exact One.u | exact One.val rfl | assumption))))))) ?_
    refine Wk.goto (q := 3) d0_41 (by decide) (by decide) ?_
    rw [n32_succ]
    exact ih (i + 1) _ _ (by simp [hvs]) (by omega) (One.val rfl)
theorem ct_compressN {l : Launch} {Z : State} {a0 : Array Value} (hw : ∀ d ∈ tables_1, d.before a0 Z = true) (hE : EW Z a0 EL0) {L : Store} {ca b : Addr} {fa : Bool} {cs : List Int32} {p : Nat} (hp : p < cs.length) (hlt : Lat (cs.take p)) (hbig : (255 : Int32) < cs[p]) (hl : cs.length < 2 ^ 31) (hm : (ca, fa, AR Z .char (cs.map .int)) ∈ L) :
    Ct l Z EL0 (⟨"java/lang/StringUTF16", "compress", "([CI[BII)I"⟩ : MethodName) jdk_52_method_21_code 7 (some .int) ({ frames := 0, cells := 0, slots := 0, locals := 0 } : Room) #[.ref ca, .int 0, .ref b, .int 0, .int cs.length.toInt32] ((b, true, AR Z .byte (List.replicate cs.length (.int 0))) :: L) (RV fun u M => u = .int p.toInt32 ∧ ∃ vs, M = (b, true, AR Z .byte vs) :: L) := by
  refine Ct.of (a0 := a0) (Ls := [.val (.ref _), .val (.int _), .val (.ref _), .val (.int _), .val (.int _), .unset, .unset]) (plainFor_of_name pn_0) (fun m => ef_ririi_7 m _ _ _ _ _) hE ?_
  refine Wk.iconst (q := 1) (0) d0_0 rfl (by decide) ?_
  refine Wk.istore (q := 3) d0_1 rfl (LS1.there (LS1.there (LS1.there (LS1.there (LS1.there (LS1.here (by first | exact One.u | exact One.val rfl | assumption))))))) ?_
  exact wk_compressN hw hE hp hlt hbig hl hm p 0 .unset _ (by simp) (by omega) One.u
set_option maxHeartbeats 4000000 in
theorem ct_compressU {l : Launch} {Z : State} {a0 : Array Value} (hw : ∀ d ∈ tables_1, d.before a0 Z = true) (hE : EW Z a0 EL0) (hU : FU Z) {L : Store} {ca : Addr} {fa : Bool} {cs : List Int32} (hc : Chars cs) (hn : ¬ Lat cs) (N : Nat) (hN : 3 * cs.length ≤ N) (hl : cs.length ≤ 4000) (hm : (ca, fa, AR Z .char (cs.map .int)) ∈ L) :
    Ct l Z EL0 (⟨"java/lang/StringUTF16", "compress", "([CII)[B"⟩ : MethodName) jdk_52_method_16_code 6 (some (.array .byte)) ({ frames := 3, cells := 2, slots := N, locals := 43 } : Room) #[.ref ca, .int 0, .int cs.length.toInt32] L (RV fun u M => ∃ b, u = .ref b ∧ M = (b, true, AR Z .byte ((u16 cs).map .int)) :: L) := by
  have h31 : cs.length < 2 ^ 31 := by omega
  obtain ⟨p, hp, hlt, hbig⟩ := first_big cs hc hn
  refine Ct.of (a0 := a0) (Ls := [.val (.ref _), .val (.int _), .val (.int _), .unset, .unset, .unset]) (plainFor_of_name pn_0) (fun m => ef_rii_6 m _ _ _) hE ?_
  refine Wk.iload_n (q := 1) d2_0 rfl rfl ?_
  refine Wk.newarray (q := 3) .byte ((cs.length)) (List.replicate (cs.length) (.int 0)) d2_1 rfl rfl rfl (hw _ (List.mem_of_getElem? (i := 21) rfl)) (n32_nn h31) (n32_nat h31) (by omega) (by first | decide | (dsimp only; omega) | omega) (by first | decide | (dsimp only; omega) | omega) ?_
  intro b
  refine Wk.astore_n (q := 4) d2_3 rfl (by first | rfl | assumption) (LS1.there (LS1.there (LS1.there (LS1.here (by first | exact One.u | exact One.val rfl | assumption))))) ?_
  refine Wk.aload_n (q := 5) d2_4 rfl rfl (by first | rfl | assumption) ?_
  refine Wk.iload_n (q := 6) d2_5 rfl rfl ?_
  refine Wk.aload_n (q := 7) d2_6 rfl rfl (by first | rfl | assumption) ?_
  refine Wk.iconst (q := 8) (0) d2_7 rfl (by decide) ?_
  refine Wk.iload_n (q := 9) d2_8 rfl rfl ?_
  refine Wk.static (q := 12) [_, _, _, _, _] _ 0 d2_9 rfl (hw _ (List.mem_of_getElem? (i := 54) rfl)) (hw _ (List.mem_of_getElem? (i := 55) rfl)) (hw _ (List.mem_of_getElem? (i := 52) rfl)) (hw _ (List.mem_of_getElem? (i := 56) rfl)) ar_0 (by decide) rfl rfl rfl rfl (ct_compressN hw hE hp hlt hbig h31 hm) (by first | decide | (dsimp only; omega) | omega) (by first | decide | (dsimp only; omega) | omega) (by first | decide | (dsimp only; omega) | omega) (by first | decide | (dsimp only; omega) | omega) (kv ?_)
  rintro _ _ ⟨rfl, vs, rfl⟩
  refine Wk.istore (q := 14) d2_12 rfl (LS1.there (LS1.there (LS1.there (LS1.there (LS1.here (by first | exact One.u | exact One.val rfl | assumption)))))) ?_
  refine Wk.iload (q := 16) d2_14 rfl rfl ?_
  refine Wk.iload_n (q := 17) d2_16 rfl rfl ?_
  refine Wk.icmp_f (q := 20) d2_17 rfl (XT.ii_eq_f (fun h => by have := (n32_inj (by omega) h31).mp h; omega)) ?_
  refine Wk.aload_n (q := 21) d2_20 rfl rfl (by first | rfl | assumption) ?_
  refine Wk.iload_n (q := 22) d2_21 rfl rfl ?_
  refine Wk.iload_n (q := 23) d2_22 rfl rfl ?_
  refine Wk.static (q := 26) [_, _, _] _ 0 d2_23 rfl (hw _ (List.mem_of_getElem? (i := 109) rfl)) (hw _ (List.mem_of_getElem? (i := 110) rfl)) (hw _ (List.mem_of_getElem? (i := 52) rfl)) (hw _ (List.mem_of_getElem? (i := 111) rfl)) ar_1 (by decide) rfl rfl rfl rfl (ct_toBytes hw hE hU (2 * cs.length) (by omega) (by omega) (List.mem_cons_of_mem _ hm)) (by first | decide | (dsimp only; omega) | omega) (by first | decide | (dsimp only; omega) | omega) (by first | decide | (dsimp only; omega) | omega) (by first | decide | (dsimp only; omega) | omega) (kv ?_)
  rintro _ _ ⟨b2, rfl, rfl⟩
  refine Wk.sub (.cons_cons _ (.cons _ (.refl _))) ?_
  refine Wk.astore (q := 28) d2_26 rfl (by first | rfl | assumption) (LS1.there (LS1.there (LS1.there (LS1.there (LS1.there (LS1.here (by first | exact One.u | exact One.val rfl | assumption))))))) ?_
  refine Wk.aload (q := 30) d2_28 rfl rfl (by first | rfl | assumption) ?_
  refine Wk.iload (q := 32) d2_30 rfl rfl ?_
  refine Wk.static (q := 35) [_, _] _ 0 d2_32 rfl (hw _ (List.mem_of_getElem? (i := 125) rfl)) (hw _ (List.mem_of_getElem? (i := 126) rfl)) (hw _ (List.mem_of_getElem? (i := 52) rfl)) (hw _ (List.mem_of_getElem? (i := 127) rfl)) ar_7 (by decide) rfl rfl rfl rfl (ct_getChar hw hE hU hc (by omega) hp List.mem_cons_self) (by first | decide | (dsimp only; omega) | omega) (by first | decide | (dsimp only; omega) | omega) (by first | decide | (dsimp only; omega) | omega) (by first | decide | (dsimp only; omega) | omega) (kv ?_)
  rintro _ _ ⟨rfl, rfl⟩
  refine Wk.sipush (q := 38) (255) d2_35 rfl (by decide) ?_
  refine Wk.icmp_t (q := 54) d2_38 (by decide) (by decide) (XT.ii_gt_t hbig) ?_
  refine Wk.aload (q := 56) d2_54 rfl rfl (by first | rfl | assumption) ?_
  refine Wk.areturn (t := (.array .byte)) d2_56 rfl rfl (by first | rfl | exact narO | exact narA) (by first | rfl | assumption) ?_
  exact ⟨_, rfl, b2, rfl, rfl⟩
theorem ushr31_neg {n : Nat} (h0 : 0 < n) (h : n < 1000000) : (XT.ushr (n.toInt32 - (2 * n).toInt32) 31).toInt8.toInt32 = 1 := by
  have e : XT.ushr (n.toInt32 - (2 * n).toInt32) 31 = 1 := by
    apply Int32.toInt_inj.mp
    have a := c_iushr (n.toInt32 - (2 * n).toInt32) 31 31 (by decide) (by decide)
    have b := c_isub n.toInt32 (2 * n).toInt32
    rw [n32 (show n < 2 ^ 31 by omega), n32 (show 2 * n < 2 ^ 31 by omega)] at b
    have r := rng32 (n.toInt32 - (2 * n).toInt32)
    show ((n.toInt32 - (2 * n).toInt32).toUInt32 >>> ((31 : Int32) &&& 31).toUInt32).toInt32.toInt = 1
    rw [a]
    simp only [pw31]
    omega
  rw [e]; decide
theorem ct_coderU {l : Launch} {Z : State} {a0 : Array Value} (hw : ∀ d ∈ tables_1, d.before a0 Z = true) (hE : EW Z a0 EL0) {L : Store} {b : Addr} {fb : Bool} {vs : List Value} {n : Nat} (h0 : 0 < n) (hn : n < 1000000) (hv : vs.length = 2 * n) (hm : (b, fb, AR Z .byte vs) ∈ L) :
    Ct l Z EL0 (⟨"java/lang/StringUTF16", "coderFromArrayLen", "([BI)B"⟩ : MethodName) jdk_52_method_15_code 2 (some .byte) ({ frames := 0, cells := 0, slots := 0, locals := 0 } : Room) #[.ref b, .int n.toInt32] L (RV fun u M => u = .int 1 ∧ M = L) := by
  refine Ct.of (a0 := a0) (Ls := [.val (.ref _), .val (.int _)]) (plainFor_of_name pn_0) (fun m => ef_ri_2 m _ _) hE ?_
  refine Wk.iload_n (q := 1) d1_0 rfl rfl ?_
  refine Wk.aload_n (q := 2) d1_1 rfl rfl (by first | rfl | assumption) ?_
  refine Wk.arraylength (q := 3) d1_2 rfl (by repeat (first | exact List.mem_cons_self | assumption | refine List.mem_cons_of_mem _ ?_)) (show vs.length.toInt32 = (2 * n).toInt32 by rw [hv]) ?_
  refine Wk.isub (q := 4) d1_3 rfl ?_
  refine Wk.bipush (q := 6) (31) d1_4 rfl (by decide) ?_
  refine Wk.iushr (q := 7) d1_6 rfl ?_
  refine Wk.i2b (q := 8) d1_7 rfl ?_
  rw [ushr31_neg h0 hn]
  refine Wk.ireturn (t := .byte) d1_8 rfl (by simp) (by decide) ?_
  exact ⟨_, rfl, rfl, rfl⟩
set_option maxHeartbeats 4000000 in
theorem ct_strInit4u {l : Launch} {Z : State} {a0 : Array Value} (hw : ∀ d ∈ tables_1, d.before a0 Z = true) (hE : EW Z a0 EL0) (F : ∃ z, z ≠ (0 : Int32) ∧ Sta Z Z.heap "java/lang/String" "COMPACT_STRINGS" "Z" (.int z)) (hU : FU Z) {L : Store} {sa ca : Addr} {fa : Bool} {cs : List Int32} (hc : Chars cs) (hn : ¬ Lat cs) (N : Nat) (hN : 3 * cs.length ≤ N) (hl : cs.length ≤ 4000) (hm : (ca, fa, AR Z .char (cs.map .int)) ∈ L) :
    Ct l Z EL0 (⟨"java/lang/String", "<init>", "([CIILjava/lang/Void;)V"⟩ : MethodName) jdk_42_method_149_code 6 none ({ frames := 4, cells := 2, slots := N, locals := 60 } : Room) #[.ref sa, .ref ca, .int 0, .int cs.length.toInt32, .null] ((sa, true, OB Z "java/lang/String" layS [.null, .int 0]) :: L) (R0 fun M => ∃ b, M = (sa, true, OB Z "java/lang/String" layS [.ref b, .int 1]) :: (b, true, AR Z .byte ((u16 cs).map .int)) :: L) := by
  have h31 : cs.length < 2 ^ 31 := by omega
  have hp : 0 < cs.length := by
    cases cs with
    | nil => exact absurd lat_nil hn
    | cons c cs => simp
  obtain ⟨z, hz, FS⟩ := F
  refine Ct.of (a0 := a0) (Ls := [.val (.ref _), .val (.ref _), .val (.int _), .val (.int _), .val .null, .unset]) (plainFor_of_name pn_1) (fun m => ef_rriin_6 m _ _ _ _) hE ?_
  refine Wk.aload_n (q := 1) d3_0 rfl rfl (by first | rfl | assumption) ?_
  refine Wk.objinit (q := 4) 0 d3_1 rfl (hw _ (List.mem_of_getElem? (i := 17) rfl)) (hw _ (List.mem_of_getElem? (i := 18) rfl)) (hw _ (List.mem_of_getElem? (i := 19) rfl)) rfl (by first | decide | (dsimp only; omega) | omega) rfl (by first | decide | (dsimp only; omega) | omega) ?_
  refine Wk.iload_n (q := 5) d3_4 rfl rfl ?_
  refine Wk.if_t (q := 27) d3_5 (by decide) (by decide) (XT.i0_ne_t (fun h => by have := (n32_inj h31 (by omega : 0 < 2 ^ 31)).mp h; omega)) ?_
  refine Wk.getstatic (q := 30) d3_27 rfl (hw _ (List.mem_of_getElem? (i := 46) rfl)) Via.refl FS ?_
  refine Wk.if_f (q := 33) d3_30 rfl (XT.i0_eq_f hz) ?_
  refine Wk.aload_n (q := 34) d3_33 rfl rfl (by first | rfl | assumption) ?_
  refine Wk.iload_n (q := 35) d3_34 rfl rfl ?_
  refine Wk.iload_n (q := 36) d3_35 rfl rfl ?_
  refine Wk.static (q := 39) [_, _, _] _ 0 d3_36 rfl (hw _ (List.mem_of_getElem? (i := 50) rfl)) (hw _ (List.mem_of_getElem? (i := 51) rfl)) (hw _ (List.mem_of_getElem? (i := 52) rfl)) (hw _ (List.mem_of_getElem? (i := 53) rfl)) ar_1 (by decide) rfl rfl rfl rfl (ct_compressU hw hE hU hc hn N hN hl (List.mem_cons_of_mem _ hm)) (by first | decide | (dsimp only; omega) | omega) (by first | decide | (dsimp only; omega) | omega) (by first | decide | (dsimp only; omega) | omega) (by first | decide | (dsimp only; omega) | omega) (kv ?_)
  rintro _ _ ⟨b, rfl, rfl⟩
  refine Wk.astore (q := 41) d3_39 rfl (by first | rfl | assumption) (LS1.there (LS1.there (LS1.there (LS1.there (LS1.there (LS1.here (by first | exact One.u | exact One.val rfl | assumption))))))) ?_
  refine Wk.aload_n (q := 42) d3_41 rfl rfl (by first | rfl | assumption) ?_
  refine Wk.aload (q := 44) d3_42 rfl rfl (by first | rfl | assumption) ?_
  refine Wk.iload_n (q := 45) d3_44 rfl rfl ?_
  refine Wk.static (q := 48) [_, _] _ 1 d3_45 rfl (hw _ (List.mem_of_getElem? (i := 57) rfl)) (hw _ (List.mem_of_getElem? (i := 58) rfl)) (hw _ (List.mem_of_getElem? (i := 52) rfl)) (hw _ (List.mem_of_getElem? (i := 59) rfl)) ar_2 (by decide) rfl rfl rfl rfl (ct_coderU hw hE hp (by omega) (by simp [u16_len]) List.mem_cons_self) (by first | decide | (dsimp only; omega) | omega) (by first | decide | (dsimp only; omega) | omega) (by first | decide | (dsimp only; omega) | omega) (by first | decide | (dsimp only; omega) | omega) (kv ?_)
  rintro _ _ ⟨rfl, rfl⟩
  refine Wk.putfield (q := 51) (C := "java/lang/String") (lay := layS) 1 d3_48 rfl (hw _ (List.mem_of_getElem? (i := 27) rfl)) Via.refl (layS_ok hw) (hw _ (List.mem_of_getElem? (i := 8) rfl)) (Or.inr ⟨(hw _ (List.mem_of_getElem? (i := 23) rfl)), rfl, rfl⟩) rfl (by decide +kernel : parseFieldDescriptor "B" = some .byte) (by repeat (first | exact Ex.here | assumption | apply Ex.there)) (VS.there (VS.here)) (by first | rfl | exact narO) (by first | rfl | exact fitO (by assumption) | exact fitA (by assumption)) ?_
  refine Wk.aload_n (q := 52) d3_51 rfl rfl (by first | rfl | assumption) ?_
  refine Wk.aload (q := 54) d3_52 rfl rfl (by first | rfl | assumption) ?_
  refine Wk.putfield (q := 57) (C := "java/lang/String") (lay := layS) 0 d3_54 rfl (hw _ (List.mem_of_getElem? (i := 26) rfl)) Via.refl (layS_ok hw) (hw _ (List.mem_of_getElem? (i := 8) rfl)) (Or.inr ⟨(hw _ (List.mem_of_getElem? (i := 22) rfl)), rfl, rfl⟩) rfl (by decide +kernel : parseFieldDescriptor "[B" = some (.array .byte)) (by repeat (first | exact Ex.here | assumption | apply Ex.there)) (VS.here) (by first | rfl | exact narO) (by first | rfl | exact fitO (by assumption) | exact fitA (by assumption)) ?_
  refine Wk.return_ d3_57 rfl ?_
  exact ⟨rfl, b, rfl⟩
set_option maxHeartbeats 4000000 in
theorem ct_strInitA {l : Launch} {Z : State} {a0 : Array Value} (hw : ∀ d ∈ tables_1, d.before a0 Z = true) (hE : EW Z a0 EL0) (F : ∃ z, z ≠ (0 : Int32) ∧ Sta Z Z.heap "java/lang/String" "COMPACT_STRINGS" "Z" (.int z)) (hU : FU Z) {L : Store} {sa ca : Addr} {fa : Bool} {cs : List Int32} (hc : Chars cs) (N : Nat) (hN : 3 * cs.length ≤ N) (hl : cs.length ≤ 4000) (hm : (ca, fa, AR Z .char (cs.map .int)) ∈ L) :
    Ct l Z EL0 (⟨"java/lang/String", "<init>", "([C)V"⟩ : MethodName) jdk_42_method_3_code 2 none ({ frames := 5, cells := 4, slots := N + 8, locals := 77 } : Room) #[.ref sa, .ref ca] ((sa, true, OB Z "java/lang/String" layS [.null, .int 0]) :: L) (R0 fun M => ∃ b fb k, (k = false ↔ Lat cs) ∧ M = (sa, true, OB Z "java/lang/String" layS [.ref b, .int (cdr k)]) :: (b, fb, AR Z .byte ((enc k cs).map .int)) :: L) := by
  refine Ct.of (a0 := a0) (Ls := [.val (.ref _), .val (.ref _)]) (plainFor_of_name pn_1) (fun m => ef_rr_2 m _ _) hE ?_
  refine Wk.aload_n (q := 1) d4_0 rfl rfl (by first | rfl | assumption) ?_
  refine Wk.aload_n (q := 2) d4_1 rfl rfl (by first | rfl | assumption) ?_
  refine Wk.iconst (q := 3) (0) d4_2 rfl (by decide) ?_
  refine Wk.aload_n (q := 4) d4_3 rfl rfl (by first | rfl | assumption) ?_
  refine Wk.arraylength (q := 5) d4_4 rfl (by repeat (first | exact List.mem_cons_self | assumption | refine List.mem_cons_of_mem _ ?_)) (show (cs.map Value.int).length.toInt32 = cs.length.toInt32 by simp) ?_
  refine Wk.aconst_null (q := 6) d4_5 rfl ?_
  by_cases h0 : cs = []
  · subst h0
    refine Wk.special (q := 9) [_, _, _, _] _ 0 d4_6 rfl rfl (hw _ (List.mem_of_getElem? (i := 13) rfl)) (hw _ (List.mem_of_getElem? (i := 14) rfl)) (hw _ (List.mem_of_getElem? (i := 9) rfl)) (hw _ (List.mem_of_getElem? (i := 16) rfl)) ar_3 (by decide) rfl rfl rfl rfl (ct_strInit4e hw hE) (by first | decide | (dsimp only; omega) | omega) (by first | decide | (dsimp only; omega) | omega) (by first | decide | (dsimp only; omega) | omega) (by first | decide | (dsimp only; omega) | omega) (k0 ?_)
    rintro _ ⟨b, rfl⟩
    refine Wk.return_ d4_9 rfl ?_
    exact ⟨rfl, b, false, false, ⟨fun _ => lat_nil, fun _ => rfl⟩, rfl⟩
  · by_cases hlat : Lat cs
    · refine Wk.special (q := 9) [_, _, _, _] _ 0 d4_6 rfl rfl (hw _ (List.mem_of_getElem? (i := 13) rfl)) (hw _ (List.mem_of_getElem? (i := 14) rfl)) (hw _ (List.mem_of_getElem? (i := 9) rfl)) (hw _ (List.mem_of_getElem? (i := 16) rfl)) ar_3 (by decide) rfl rfl rfl rfl (ct_strInit4 hw hE F hlat h0 N (by omega) hl hm) (by first | decide | (dsimp only; omega) | omega) (by first | decide | (dsimp only; omega) | omega) (by first | decide | (dsimp only; omega) | omega) (by first | decide | (dsimp only; omega) | omega) (k0 ?_)
      rintro _ ⟨b, rfl⟩
      refine Wk.return_ d4_9 rfl ?_
      exact ⟨rfl, b, true, false, ⟨fun _ => hlat, fun _ => rfl⟩, rfl⟩
    · refine Wk.special (q := 9) [_, _, _, _] _ 0 d4_6 rfl rfl (hw _ (List.mem_of_getElem? (i := 13) rfl)) (hw _ (List.mem_of_getElem? (i := 14) rfl)) (hw _ (List.mem_of_getElem? (i := 9) rfl)) (hw _ (List.mem_of_getElem? (i := 16) rfl)) ar_3 (by decide) rfl rfl rfl rfl (ct_strInit4u hw hE F hU hc hlat N hN hl hm) (by first | decide | (dsimp only; omega) | omega) (by first | decide | (dsimp only; omega) | omega) (by first | decide | (dsimp only; omega) | omega) (by first | decide | (dsimp only; omega) | omega) (k0 ?_)
      rintro _ ⟨b, rfl⟩
      refine Wk.return_ d4_9 rfl ?_
      exact ⟨rfl, b, true, true, ⟨fun h => Bool.noConfusion h, fun h => absurd h hlat⟩, rfl⟩

theorem b8_back {c : Int32} (h : 0 ≤ c.toInt ∧ c.toInt < 256) : b8 c &&& 255 = c := by
  apply Int32.toInt_inj.mp
  have a := c_mask (b8 c) 255 8 (by decide) (by decide)
  have b := b8_toInt h
  simp only [pw0, pw1, pw8, pw31] at a
  rw [a, b]
  split <;> omega
theorem shr0 (x : Int32) : x >>> ((0 : Int32) &&& 31) = x := by
  apply Int32.toInt_inj.mp
  have a := c_ishr x 0 0 (by decide)
  simp only [pw0, pw1, pw8, pw31] at a
  omega
theorem shr1 {n : Nat} (h : n < 1000000) : (2 * n).toInt32 >>> ((1 : Int32) &&& 31) = n.toInt32 := by
  apply Int32.toInt_inj.mp
  have a := c_ishr (2 * n).toInt32 1 1 (by decide)
  rw [n32 (show 2 * n < 2 ^ 31 by omega)] at a
  rw [n32 (show n < 2 ^ 31 by omega)]
  simp only [pw0, pw1, pw8, pw31] at a
  omega
theorem ct_coder {l : Launch} {Z : State} {a0 : Array Value} (hw : ∀ d ∈ tables_1, d.before a0 Z = true) (hE : EW Z a0 EL0) (F : ∃ z, z ≠ (0 : Int32) ∧ Sta Z Z.heap "java/lang/String" "COMPACT_STRINGS" "Z" (.int z)) {L : Store} {s b : Addr} {f : Bool} {k : Int32} (hk : k = 0 ∨ k = 1) (hs : (s, f, OB Z "java/lang/String" layS [.ref b, .int k]) ∈ L) :
    Ct l Z EL0 (⟨"java/lang/String", "coder", "()B"⟩ : MethodName) jdk_42_method_152_code 1 (some .byte) ({ frames := 0, cells := 0, slots := 0, locals := 0 } : Room) #[.ref s] L (RV fun u M => u = .int k ∧ M = L) := by
  obtain ⟨z, hz, FS⟩ := F
  refine Ct.of (a0 := a0) (Ls := [.val (.ref _)]) (plainFor_of_name pn_1) (fun m => ef_r_1 m _) hE ?_
  refine Wk.getstatic (q := 3) d10_0 rfl (hw _ (List.mem_of_getElem? (i := 46) rfl)) Via.refl FS ?_
  refine Wk.if_f (q := 6) d10_3 rfl (XT.i0_eq_f hz) ?_
  refine Wk.aload_n (q := 7) d10_6 rfl rfl (by first | rfl | assumption) ?_
  refine Wk.getfield (q := 10) (C := "java/lang/String") (lay := layS) 1 d10_7 rfl (hw _ (List.mem_of_getElem? (i := 27) rfl)) Via.refl (by repeat (first | exact List.mem_cons_self | assumption | refine List.mem_cons_of_mem _ ?_)) rfl (by rfl) ?_
  refine Wk.goto (q := 14) d10_10 (by decide) (by decide) ?_
  refine Wk.ireturn (t := .byte) d10_14 rfl (by simp) (by rcases hk with rfl | rfl <;> decide) ?_
  exact ⟨_, rfl, rfl, rfl⟩
theorem ct_len {l : Launch} {Z : State} {a0 : Array Value} (hw : ∀ d ∈ tables_1, d.before a0 Z = true) (hE : EW Z a0 EL0) (F : ∃ z, z ≠ (0 : Int32) ∧ Sta Z Z.heap "java/lang/String" "COMPACT_STRINGS" "Z" (.int z)) {L : Store} {s b : Addr} {f fb : Bool} {k : Int32} {vs : List Value} (hk : k = 0 ∨ k = 1) (hs : (s, f, OB Z "java/lang/String" layS [.ref b, .int k]) ∈ L) (hb : (b, fb, AR Z .byte vs) ∈ L) :
    Ct l Z EL0 (⟨"java/lang/String", "length", "()I"⟩ : MethodName) jdk_42_method_54_code 1 (some .int) ({ frames := 1, cells := 0, slots := 0, locals := 13 } : Room) #[.ref s] L (RV fun u M => u = .int (vs.length.toInt32 >>> (k &&& 31)) ∧ M = L) := by
  refine Ct.of (a0 := a0) (Ls := [.val (.ref _)]) (plainFor_of_name pn_1) (fun m => ef_r_1 m _) hE ?_
  refine Wk.aload_n (q := 1) d11_0 rfl rfl (by first | rfl | assumption) ?_
  refine Wk.getfield (q := 4) (C := "java/lang/String") (lay := layS) 0 d11_1 rfl (hw _ (List.mem_of_getElem? (i := 26) rfl)) Via.refl (by repeat (first | exact List.mem_cons_self | assumption | refine List.mem_cons_of_mem _ ?_)) rfl (by rfl) ?_
  refine Wk.arraylength (q := 5) d11_4 rfl (by repeat (first | exact List.mem_cons_self | assumption | refine List.mem_cons_of_mem _ ?_)) (by rfl) ?_
  refine Wk.aload_n (q := 6) d11_5 rfl rfl (by first | rfl | assumption) ?_
  refine Wk.virtual (q := 9) (C := "java/lang/String") [] _ 1 d11_6 rfl (hw _ (List.mem_of_getElem? (i := 41) rfl)) (hw _ (List.mem_of_getElem? (i := 42) rfl)) (hw _ (List.mem_of_getElem? (i := 44) rfl)) (hw _ (List.mem_of_getElem? (i := 43) rfl)) (hw _ (List.mem_of_getElem? (i := 9) rfl)) (hw _ (List.mem_of_getElem? (i := 45) rfl)) ar_8 (by decide) (nfSel (hw _ (List.mem_of_getElem? (i := 44) rfl))) (by repeat (first | exact List.mem_cons_self | assumption | refine List.mem_cons_of_mem _ ?_)) rfl rfl rfl rfl (ct_coder hw hE F hk hs) (by first | decide | (dsimp only; omega) | omega) (by first | decide | (dsimp only; omega) | omega) (by first | decide | (dsimp only; omega) | omega) (by first | decide | (dsimp only; omega) | omega) (kv ?_)
  rintro _ _ ⟨rfl, rfl⟩
  refine Wk.ishr (q := 10) d11_9 rfl ?_
  refine Wk.ireturn (t := .int) d11_10 rfl (by simp) (by rfl) ?_
  exact ⟨_, rfl, rfl, rfl⟩
theorem ct_lenL {l : Launch} {Z : State} {a0 : Array Value} (hw : ∀ d ∈ tables_1, d.before a0 Z = true) (hE : EW Z a0 EL0) (F : ∃ z, z ≠ (0 : Int32) ∧ Sta Z Z.heap "java/lang/String" "COMPACT_STRINGS" "Z" (.int z)) {L : Store} {s b : Addr} {f fb : Bool} {xs : List Int32} (hs : (s, f, OB Z "java/lang/String" layS [.ref b, .int 0]) ∈ L) (hb : (b, fb, AR Z .byte (xs.map .int)) ∈ L) :
    Ct l Z EL0 (⟨"java/lang/String", "length", "()I"⟩ : MethodName) jdk_42_method_54_code 1 (some .int) ({ frames := 1, cells := 0, slots := 0, locals := 13 } : Room) #[.ref s] L (RV fun u M => u = .int xs.length.toInt32 ∧ M = L) :=
  Ct.imp (fun v M ⟨u, h1, h2, h3⟩ => ⟨u, h1, by rw [h2, shr0]; simp, h3⟩) (ct_len hw hE F (Or.inl rfl) hs hb)

theorem cdr_cases (k : Bool) : cdr k = 0 ∨ cdr k = 1 := by cases k <;> decide
theorem enc_len (k : Bool) (cs : List Int32) (h : cs.length < 1000000) : ((enc k cs).map Value.int).length.toInt32 >>> (cdr k &&& 31) = cs.length.toInt32 := by
  cases k
  · show (((cs.map b8).map Value.int).length.toInt32 >>> ((0 : Int32) &&& 31)) = _
    rw [shr0]; simp
  · show (((u16 cs).map Value.int).length.toInt32 >>> ((1 : Int32) &&& 31)) = _
    rw [List.length_map, u16_len, shr1 h]
theorem ct_lenA {l : Launch} {Z : State} {a0 : Array Value} (hw : ∀ d ∈ tables_1, d.before a0 Z = true) (hE : EW Z a0 EL0) (F : ∃ z, z ≠ (0 : Int32) ∧ Sta Z Z.heap "java/lang/String" "COMPACT_STRINGS" "Z" (.int z)) {L : Store} {s b : Addr} {f fb : Bool} {k : Bool} {cs : List Int32} (hl : cs.length < 1000000) (hs : (s, f, OB Z "java/lang/String" layS [.ref b, .int (cdr k)]) ∈ L) (hb : (b, fb, AR Z .byte ((enc k cs).map .int)) ∈ L) :
    Ct l Z EL0 (⟨"java/lang/String", "length", "()I"⟩ : MethodName) jdk_42_method_54_code 1 (some .int) ({ frames := 1, cells := 0, slots := 0, locals := 13 } : Room) #[.ref s] L (RV fun u M => u = .int cs.length.toInt32 ∧ M = L) :=
  Ct.imp (fun v M ⟨u, h1, h2, h3⟩ => ⟨u, h1, by rw [h2, enc_len k cs hl], h3⟩) (ct_len hw hE F (cdr_cases k) hs hb)

/-- the formatter of the bounds' faults -/
def FO (Z : State) : Prop := ∃ w : Value, w.isRef = true ∧ Sta Z Z.heap "jdk/internal/util/Preconditions" "SIOOBE_FORMATTER" "Ljava/util/function/BiFunction;" w
theorem FO_of {Z : State} {args : Array Value} (h1 : (Jvm.Cond.initializedFor "jdk/internal/util/Preconditions" "SIOOBE_FORMATTER" "Ljava/util/function/BiFunction;").before args Z = true) (h2 : (Jvm.Cond.isRef (Term.static "jdk/internal/util/Preconditions" "SIOOBE_FORMATTER" "Ljava/util/function/BiFunction;")).before args Z = true) : FO Z := by
  obtain ⟨w, ev, hr⟩ := isR_v (Cond.before_iff.mp h2)
  exact ⟨w, hr, Sta.start (args := args) ev (Or.inl h1)⟩
theorem ct_isLat {l : Launch} {Z : State} {a0 : Array Value} (hw : ∀ d ∈ tables_1, d.before a0 Z = true) (hE : EW Z a0 EL0) (F : ∃ z, z ≠ (0 : Int32) ∧ Sta Z Z.heap "java/lang/String" "COMPACT_STRINGS" "Z" (.int z)) {L : Store} {s b : Addr} {f : Bool} {k : Int32} (hk : k = 0 ∨ k = 1) (hs : (s, f, OB Z "java/lang/String" layS [.ref b, .int k]) ∈ L) :
    Ct l Z EL0 (⟨"java/lang/String", "isLatin1", "()Z"⟩ : MethodName) jdk_42_method_154_code 1 (some .boolean) ({ frames := 0, cells := 0, slots := 0, locals := 0 } : Room) #[.ref s] L (RV fun u M => u = .int (1 - k) ∧ M = L) := by
  obtain ⟨z, hz, FS⟩ := F
  refine Ct.of (a0 := a0) (Ls := [.val (.ref _)]) (plainFor_of_name pn_1) (fun m => ef_r_1 m _) hE ?_
  refine Wk.getstatic (q := 3) d12_0 rfl (hw _ (List.mem_of_getElem? (i := 46) rfl)) Via.refl FS ?_
  refine Wk.if_f (q := 6) d12_3 rfl (XT.i0_eq_f hz) ?_
  refine Wk.aload_n (q := 7) d12_6 rfl rfl (by first | rfl | assumption) ?_
  refine Wk.getfield (q := 10) (C := "java/lang/String") (lay := layS) 1 d12_7 rfl (hw _ (List.mem_of_getElem? (i := 27) rfl)) Via.refl (by repeat (first | exact List.mem_cons_self | assumption | refine List.mem_cons_of_mem _ ?_)) rfl (by rfl) ?_
  rcases hk with rfl | rfl
  · refine Wk.if_f (q := 13) d12_10 rfl (by decide) ?_
    refine Wk.iconst (q := 14) (1) d12_13 rfl (by decide) ?_
    refine Wk.goto (q := 18) d12_14 (by decide) (by decide) ?_
    refine Wk.ireturn (t := .boolean) d12_18 rfl (by simp) (by rfl) ?_
    exact ⟨_, rfl, by decide, rfl⟩
  · refine Wk.if_t (q := 17) d12_10 (by decide) (by decide) (by decide) ?_
    refine Wk.iconst (q := 18) (0) d12_17 rfl (by decide) ?_
    refine Wk.ireturn (t := .boolean) d12_18 rfl (by simp) (by rfl) ?_
    exact ⟨_, rfl, by decide, rfl⟩
theorem ct_preIdx {l : Launch} {Z : State} {a0 : Array Value} (hw : ∀ d ∈ tables_1, d.before a0 Z = true) (hE : EW Z a0 EL0) {L : Store} {i n : Int32} {w : Value} (hr : w.isRef = true) (h0 : ¬ i < 0) (h1 : i < n) : Ct l Z EL0 (⟨"jdk/internal/util/Preconditions", "checkIndex", "(IILjava/util/function/BiFunction;)I"⟩ : MethodName) jdk_41_method_11_code 3 (some .int) ({ frames := 0, cells := 0, slots := 0, locals := 0 } : Room) #[.int i, .int n, w] L (RV fun u M => u = .int i ∧ M = L) := by
  refine Ct.of (a0 := a0) (Ls := [.val (.int _), .val (.int _), .val _]) (plainFor_of_name pn_2) (fun m => ef_iiv_3 m _ _ _ (by assumption)) hE ?_
  refine Wk.iload_n (q := 1) d13_0 rfl rfl ?_
  refine Wk.if_f (q := 4) d13_1 rfl (XT.i0_lt_f h0) ?_
  refine Wk.iload_n (q := 5) d13_4 rfl rfl ?_
  refine Wk.iload_n (q := 6) d13_5 rfl rfl ?_
  refine Wk.icmp_t (q := 16) d13_6 (by decide) (by decide) (XT.ii_lt_t h1) ?_
  refine Wk.iload_n (q := 17) d13_16 rfl rfl ?_
  refine Wk.ireturn (t := .int) d13_17 rfl (by simp) (by rfl) ?_
  exact ⟨_, rfl, rfl, rfl⟩
theorem ct_strIdx {l : Launch} {Z : State} {a0 : Array Value} (hw : ∀ d ∈ tables_1, d.before a0 Z = true) (hE : EW Z a0 EL0) (hO : FO Z) {L : Store} {i n : Int32} (h0 : ¬ i < 0) (h1 : i < n) : Ct l Z EL0 (⟨"java/lang/String", "checkIndex", "(II)V"⟩ : MethodName) jdk_42_method_155_code 2 none ({ frames := 1, cells := 0, slots := 0, locals := 14 } : Room) #[.int i, .int n] L (R0 fun M => M = L) := by
  obtain ⟨w, hr, sta_SIOOBE_FORMATTER⟩ := hO
  refine Ct.of (a0 := a0) (Ls := [.val (.int _), .val (.int _)]) (plainFor_of_name pn_1) (fun m => ef_ii_2 m _ _) hE ?_
  refine Wk.iload_n (q := 1) d14_0 rfl rfl ?_
  refine Wk.iload_n (q := 2) d14_1 rfl rfl ?_
  refine Wk.getstatic (q := 5) d14_2 rfl (hw _ (List.mem_of_getElem? (i := 84) rfl)) Via.refl sta_SIOOBE_FORMATTER ?_
  refine Wk.static (q := 8) [_, _, _] _ 0 d14_5 rfl (hw _ (List.mem_of_getElem? (i := 86) rfl)) (hw _ (List.mem_of_getElem? (i := 87) rfl)) (hw _ (List.mem_of_getElem? (i := 85) rfl)) (hw _ (List.mem_of_getElem? (i := 88) rfl)) ar_9 (by decide) rfl rfl rfl rfl (ct_preIdx hw hE hr h0 h1) (by first | decide | (dsimp only; omega) | omega) (by first | decide | (dsimp only; omega) | omega) (by first | decide | (dsimp only; omega) | omega) (by first | decide | (dsimp only; omega) | omega) (kv ?_)
  rintro _ _ ⟨rfl, rfl⟩
  refine Wk.pop (q := 9) d14_8 rfl rfl ?_
  refine Wk.return_ d14_9 rfl ?_
  exact ⟨rfl, rfl⟩
theorem ct_latAt {l : Launch} {Z : State} {a0 : Array Value} (hw : ∀ d ∈ tables_1, d.before a0 Z = true) (hE : EW Z a0 EL0) (hO : FO Z) {L : Store} {b : Addr} {fb : Bool} {cs : List Int32} (hc : Lat cs) (hl : cs.length < 2 ^ 31) {i : Nat} (hi : i < cs.length) (hb : (b, fb, AR Z .byte ((cs.map b8).map .int)) ∈ L) : Ct l Z EL0 (⟨"java/lang/StringLatin1", "charAt", "([BI)C"⟩ : MethodName) jdk_43_method_2_code 2 (some .char) ({ frames := 2, cells := 0, slots := 0, locals := 27 } : Room) #[.ref b, .int i.toInt32] L (RV fun u M => u = .int cs[i] ∧ M = L) := by
  have h3 : i < 2 ^ 31 := by omega
  have hci := hc cs[i] (List.getElem_mem hi)
  refine Ct.of (a0 := a0) (Ls := [.val (.ref _), .val (.int _)]) (plainFor_of_name pn_3) (fun m => ef_ri_2 m _ _) hE ?_
  refine Wk.iload_n (q := 1) d15_0 rfl rfl ?_
  refine Wk.aload_n (q := 2) d15_1 rfl rfl (by first | rfl | assumption) ?_
  refine Wk.arraylength (q := 3) d15_2 rfl (by repeat (first | exact List.mem_cons_self | assumption | refine List.mem_cons_of_mem _ ?_)) (show ((cs.map b8).map Value.int).length.toInt32 = cs.length.toInt32 by simp) ?_
  refine Wk.static (q := 6) [_, _] _ 0 d15_3 rfl (hw _ (List.mem_of_getElem? (i := 81) rfl)) (hw _ (List.mem_of_getElem? (i := 82) rfl)) (hw _ (List.mem_of_getElem? (i := 9) rfl)) (hw _ (List.mem_of_getElem? (i := 83) rfl)) ar_10 (by decide) rfl rfl rfl rfl (ct_strIdx hw hE hO (n32_nn h3) ((n32_lt h3 hl).mpr hi)) (by first | decide | (dsimp only; omega) | omega) (by first | decide | (dsimp only; omega) | omega) (by first | decide | (dsimp only; omega) | omega) (by first | decide | (dsimp only; omega) | omega) (k0 ?_)
  rintro _ rfl
  refine Wk.aload_n (q := 7) d15_6 rfl rfl (by first | rfl | assumption) ?_
  refine Wk.iload_n (q := 8) d15_7 rfl rfl ?_
  refine Wk.baload (q := 9) (i) d15_8 rfl (by repeat (first | exact List.mem_cons_self | assumption | refine List.mem_cons_of_mem _ ?_)) (n32_nn h3) (n32_nat h3) (show ((cs.map b8).map Value.int)[i]? = some (.int (b8 cs[i])) by simp [hi]) ?_
  refine Wk.sipush (q := 12) (255) d15_9 rfl (by decide) ?_
  refine Wk.iand (q := 13) d15_12 rfl ?_
  refine Wk.i2c (q := 14) d15_13 rfl ?_
  rw [i2c_mask, b8_back hci]
  refine Wk.ireturn (t := .char) d15_14 rfl (by simp) (congrArg Value.int (nchar_lat hci)) ?_
  exact ⟨_, rfl, rfl, rfl⟩
theorem ct_atL {l : Launch} {Z : State} {a0 : Array Value} (hw : ∀ d ∈ tables_1, d.before a0 Z = true) (hE : EW Z a0 EL0) (F : ∃ z, z ≠ (0 : Int32) ∧ Sta Z Z.heap "java/lang/String" "COMPACT_STRINGS" "Z" (.int z)) (hO : FO Z) {L : Store} {s b : Addr} {f fb : Bool} {cs : List Int32} (hc : Lat cs) (hl : cs.length < 2 ^ 31) {i : Nat} (hi : i < cs.length) (hs : (s, f, OB Z "java/lang/String" layS [.ref b, .int 0]) ∈ L) (hb : (b, fb, AR Z .byte ((cs.map b8).map .int)) ∈ L) : Ct l Z EL0 (⟨"java/lang/String", "charAt", "(I)C"⟩ : MethodName) jdk_42_method_56_code 2 (some .char) ({ frames := 4, cells := 0, slots := 0, locals := 53 } : Room) #[.ref s, .int i.toInt32] L (RV fun u M => u = .int cs[i] ∧ M = L) := by
  have hci := hc cs[i] (List.getElem_mem hi)
  refine Ct.of (a0 := a0) (Ls := [.val (.ref _), .val (.int _)]) (plainFor_of_name pn_1) (fun m => ef_ri_2 m _ _) hE ?_
  refine Wk.aload_n (q := 1) d16_0 rfl rfl (by first | rfl | assumption) ?_
  refine Wk.virtual (q := 4) (C := "java/lang/String") [] _ 0 d16_1 rfl (hw _ (List.mem_of_getElem? (i := 72) rfl)) (hw _ (List.mem_of_getElem? (i := 73) rfl)) (hw _ (List.mem_of_getElem? (i := 75) rfl)) (hw _ (List.mem_of_getElem? (i := 74) rfl)) (hw _ (List.mem_of_getElem? (i := 9) rfl)) (hw _ (List.mem_of_getElem? (i := 76) rfl)) ar_11 (by decide) (nfSel (hw _ (List.mem_of_getElem? (i := 75) rfl))) (by repeat (first | exact List.mem_cons_self | assumption | refine List.mem_cons_of_mem _ ?_)) rfl rfl rfl rfl (ct_isLat hw hE F (Or.inl rfl) hs) (by first | decide | (dsimp only; omega) | omega) (by first | decide | (dsimp only; omega) | omega) (by first | decide | (dsimp only; omega) | omega) (by first | decide | (dsimp only; omega) | omega) (kv ?_)
  rintro _ _ ⟨rfl, rfl⟩
  refine Wk.if_f (q := 7) d16_4 rfl (by decide) ?_
  refine Wk.aload_n (q := 8) d16_7 rfl rfl (by first | rfl | assumption) ?_
  refine Wk.getfield (q := 11) (C := "java/lang/String") (lay := layS) 0 d16_8 rfl (hw _ (List.mem_of_getElem? (i := 26) rfl)) Via.refl (by repeat (first | exact List.mem_cons_self | assumption | refine List.mem_cons_of_mem _ ?_)) rfl (by rfl) ?_
  refine Wk.iload_n (q := 12) d16_11 rfl rfl ?_
  refine Wk.static (q := 15) [_, _] _ 0 d16_12 rfl (hw _ (List.mem_of_getElem? (i := 77) rfl)) (hw _ (List.mem_of_getElem? (i := 78) rfl)) (hw _ (List.mem_of_getElem? (i := 79) rfl)) (hw _ (List.mem_of_getElem? (i := 80) rfl)) ar_7 (by decide) rfl rfl rfl rfl (ct_latAt hw hE hO hc hl hi hb) (by first | decide | (dsimp only; omega) | omega) (by first | decide | (dsimp only; omega) | omega) (by first | decide | (dsimp only; omega) | omega) (by first | decide | (dsimp only; omega) | omega) (kv ?_)
  rintro _ _ ⟨rfl, rfl⟩
  refine Wk.ireturn (t := .char) d16_15 rfl (by simp) (congrArg Value.int (nchar_lat hci)) ?_
  exact ⟨_, rfl, rfl, rfl⟩

theorem ct_u16Len {l : Launch} {Z : State} {a0 : Array Value} (hw : ∀ d ∈ tables_1, d.before a0 Z = true) (hE : EW Z a0 EL0) {L : Store} {b : Addr} {fb : Bool} {cs : List Int32} (hl : cs.length < 1000000) (hb : (b, fb, AR Z .byte ((u16 cs).map .int)) ∈ L) : Ct l Z EL0 (⟨"java/lang/StringUTF16", "length", "([B)I"⟩ : MethodName) jdk_52_method_6_code 1 (some .int) ({ frames := 0, cells := 0, slots := 0, locals := 0 } : Room) #[.ref b] L (RV fun u M => u = .int cs.length.toInt32 ∧ M = L) := by
  refine Ct.of (a0 := a0) (Ls := [.val (.ref _)]) (plainFor_of_name pn_0) (fun m => ef_r_1 m _) hE ?_
  refine Wk.aload_n (q := 1) d17_0 rfl rfl (by first | rfl | assumption) ?_
  refine Wk.arraylength (q := 2) d17_1 rfl (by repeat (first | exact List.mem_cons_self | assumption | refine List.mem_cons_of_mem _ ?_)) (show ((u16 cs).map Value.int).length.toInt32 = (2 * cs.length).toInt32 by rw [List.length_map, u16_len]) ?_
  refine Wk.iconst (q := 3) (1) d17_2 rfl (by decide) ?_
  refine Wk.ishr (q := 4) d17_3 rfl ?_
  rw [shr1 hl]
  refine Wk.ireturn (t := .int) d17_4 rfl (by simp) (by rfl) ?_
  exact ⟨_, rfl, rfl, rfl⟩
theorem ct_u16Idx {l : Launch} {Z : State} {a0 : Array Value} (hw : ∀ d ∈ tables_1, d.before a0 Z = true) (hE : EW Z a0 EL0) (hO : FO Z) {L : Store} {b : Addr} {fb : Bool} {cs : List Int32} (hl : cs.length < 1000000) {i : Nat} (hi : i < cs.length) (hb : (b, fb, AR Z .byte ((u16 cs).map .int)) ∈ L) : Ct l Z EL0 (⟨"java/lang/StringUTF16", "checkIndex", "(I[B)V"⟩ : MethodName) jdk_52_method_91_code 2 none ({ frames := 2, cells := 0, slots := 0, locals := 27 } : Room) #[.int i.toInt32, .ref b] L (R0 fun M => M = L) := by
  refine Ct.of (a0 := a0) (Ls := [.val (.int _), .val (.ref _)]) (plainFor_of_name pn_0) (fun m => ef_ir_2 m _ _) hE ?_
  refine Wk.iload_n (q := 1) d18_0 rfl rfl ?_
  refine Wk.aload_n (q := 2) d18_1 rfl rfl (by first | rfl | assumption) ?_
  refine Wk.static (q := 5) [_] _ 1 d18_2 rfl (hw _ (List.mem_of_getElem? (i := 134) rfl)) (hw _ (List.mem_of_getElem? (i := 135) rfl)) (hw _ (List.mem_of_getElem? (i := 52) rfl)) (hw _ (List.mem_of_getElem? (i := 136) rfl)) ar_12 (by decide) rfl rfl rfl rfl (ct_u16Len hw hE hl hb) (by first | decide | (dsimp only; omega) | omega) (by first | decide | (dsimp only; omega) | omega) (by first | decide | (dsimp only; omega) | omega) (by first | decide | (dsimp only; omega) | omega) (kv ?_)
  rintro _ _ ⟨rfl, rfl⟩
  refine Wk.static (q := 8) [_, _] _ 0 d18_5 rfl (hw _ (List.mem_of_getElem? (i := 137) rfl)) (hw _ (List.mem_of_getElem? (i := 82) rfl)) (hw _ (List.mem_of_getElem? (i := 9) rfl)) (hw _ (List.mem_of_getElem? (i := 83) rfl)) ar_10 (by decide) rfl rfl rfl rfl (ct_strIdx hw hE hO (n32_nn (by omega)) ((n32_lt (by omega) (by omega)).mpr hi)) (by first | decide | (dsimp only; omega) | omega) (by first | decide | (dsimp only; omega) | omega) (by first | decide | (dsimp only; omega) | omega) (by first | decide | (dsimp only; omega) | omega) (k0 ?_)
  rintro _ rfl
  refine Wk.return_ d18_8 rfl ?_
  exact ⟨rfl, rfl⟩
theorem ct_u16At {l : Launch} {Z : State} {a0 : Array Value} (hw : ∀ d ∈ tables_1, d.before a0 Z = true) (hE : EW Z a0 EL0) (hU : FU Z) (hO : FO Z) {L : Store} {b : Addr} {fb : Bool} {cs : List Int32} (hc : Chars cs) (hl : cs.length < 1000000) {i : Nat} (hi : i < cs.length) (hb : (b, fb, AR Z .byte ((u16 cs).map .int)) ∈ L) : Ct l Z EL0 (⟨"java/lang/StringUTF16", "charAt", "([BI)C"⟩ : MethodName) jdk_52_method_83_code 2 (some .char) ({ frames := 3, cells := 0, slots := 0, locals := 40 } : Room) #[.ref b, .int i.toInt32] L (RV fun u M => u = .int cs[i] ∧ M = L) := by
  have h16 := hc cs[i] (List.getElem_mem hi)
  refine Ct.of (a0 := a0) (Ls := [.val (.ref _), .val (.int _)]) (plainFor_of_name pn_0) (fun m => ef_ri_2 m _ _) hE ?_
  refine Wk.iload_n (q := 1) d19_0 rfl rfl ?_
  refine Wk.aload_n (q := 2) d19_1 rfl rfl (by first | rfl | assumption) ?_
  refine Wk.static (q := 5) [_, _] _ 0 d19_2 rfl (hw _ (List.mem_of_getElem? (i := 131) rfl)) (hw _ (List.mem_of_getElem? (i := 132) rfl)) (hw _ (List.mem_of_getElem? (i := 52) rfl)) (hw _ (List.mem_of_getElem? (i := 133) rfl)) ar_13 (by decide) rfl rfl rfl rfl (ct_u16Idx hw hE hO hl hi hb) (by first | decide | (dsimp only; omega) | omega) (by first | decide | (dsimp only; omega) | omega) (by first | decide | (dsimp only; omega) | omega) (by first | decide | (dsimp only; omega) | omega) (k0 ?_)
  rintro _ rfl
  refine Wk.aload_n (q := 6) d19_5 rfl rfl (by first | rfl | assumption) ?_
  refine Wk.iload_n (q := 7) d19_6 rfl rfl ?_
  refine Wk.static (q := 10) [_, _] _ 0 d19_7 rfl (hw _ (List.mem_of_getElem? (i := 125) rfl)) (hw _ (List.mem_of_getElem? (i := 126) rfl)) (hw _ (List.mem_of_getElem? (i := 52) rfl)) (hw _ (List.mem_of_getElem? (i := 127) rfl)) ar_7 (by decide) rfl rfl rfl rfl (ct_getChar hw hE hU hc hl hi hb) (by first | decide | (dsimp only; omega) | omega) (by first | decide | (dsimp only; omega) | omega) (by first | decide | (dsimp only; omega) | omega) (by first | decide | (dsimp only; omega) | omega) (kv ?_)
  rintro _ _ ⟨rfl, rfl⟩
  refine Wk.ireturn (t := .char) d19_10 rfl (by simp) (congrArg Value.int (nchar16 h16)) ?_
  exact ⟨_, rfl, rfl, rfl⟩
set_option maxHeartbeats 4000000 in
theorem ct_atA {l : Launch} {Z : State} {a0 : Array Value} (hw : ∀ d ∈ tables_1, d.before a0 Z = true) (hE : EW Z a0 EL0) (F : ∃ z, z ≠ (0 : Int32) ∧ Sta Z Z.heap "java/lang/String" "COMPACT_STRINGS" "Z" (.int z)) (hU : FU Z) (hO : FO Z) {L : Store} {s b : Addr} {f fb k : Bool} {cs : List Int32} (hc : Chars cs) (hk : k = false ↔ Lat cs) (hl : cs.length < 1000000) {i : Nat} (hi : i < cs.length) (hs : (s, f, OB Z "java/lang/String" layS [.ref b, .int (cdr k)]) ∈ L) (hb : (b, fb, AR Z .byte ((enc k cs).map .int)) ∈ L) : Ct l Z EL0 (⟨"java/lang/String", "charAt", "(I)C"⟩ : MethodName) jdk_42_method_56_code 2 (some .char) ({ frames := 4, cells := 0, slots := 0, locals := 53 } : Room) #[.ref s, .int i.toInt32] L (RV fun u M => u = .int cs[i] ∧ M = L) := by
  have h16 := hc cs[i] (List.getElem_mem hi)
  refine Ct.of (a0 := a0) (Ls := [.val (.ref _), .val (.int _)]) (plainFor_of_name pn_1) (fun m => ef_ri_2 m _ _) hE ?_
  refine Wk.aload_n (q := 1) d16_0 rfl rfl (by first | rfl | assumption) ?_
  refine Wk.virtual (q := 4) (C := "java/lang/String") [] _ 0 d16_1 rfl (hw _ (List.mem_of_getElem? (i := 72) rfl)) (hw _ (List.mem_of_getElem? (i := 73) rfl)) (hw _ (List.mem_of_getElem? (i := 75) rfl)) (hw _ (List.mem_of_getElem? (i := 74) rfl)) (hw _ (List.mem_of_getElem? (i := 9) rfl)) (hw _ (List.mem_of_getElem? (i := 76) rfl)) ar_11 (by decide) (nfSel (hw _ (List.mem_of_getElem? (i := 75) rfl))) (by repeat (first | exact List.mem_cons_self | assumption | refine List.mem_cons_of_mem _ ?_)) rfl rfl rfl rfl (ct_isLat hw hE F (cdr_cases k) hs) (by first | decide | (dsimp only; omega) | omega) (by first | decide | (dsimp only; omega) | omega) (by first | decide | (dsimp only; omega) | omega) (by first | decide | (dsimp only; omega) | omega) (kv ?_)
  rintro _ _ ⟨rfl, rfl⟩
  cases k with
  | false =>
    refine Wk.if_f (q := 7) d16_4 rfl (by decide) ?_
    refine Wk.aload_n (q := 8) d16_7 rfl rfl (by first | rfl | assumption) ?_
    refine Wk.getfield (q := 11) (C := "java/lang/String") (lay := layS) 0 d16_8 rfl (hw _ (List.mem_of_getElem? (i := 26) rfl)) Via.refl (by repeat (first | exact List.mem_cons_self | assumption | refine List.mem_cons_of_mem _ ?_)) rfl (by rfl) ?_
    refine Wk.iload_n (q := 12) d16_11 rfl rfl ?_
    refine Wk.static (q := 15) [_, _] _ 0 d16_12 rfl (hw _ (List.mem_of_getElem? (i := 77) rfl)) (hw _ (List.mem_of_getElem? (i := 78) rfl)) (hw _ (List.mem_of_getElem? (i := 79) rfl)) (hw _ (List.mem_of_getElem? (i := 80) rfl)) ar_7 (by decide) rfl rfl rfl rfl (ct_latAt hw hE hO (hk.mp rfl) (by omega) hi hb) (by first | decide | (dsimp only; omega) | omega) (by first | decide | (dsimp only; omega) | omega) (by first | decide | (dsimp only; omega) | omega) (by first | decide | (dsimp only; omega) | omega) (kv ?_)
    rintro _ _ ⟨rfl, rfl⟩
    refine Wk.ireturn (t := .char) d16_15 rfl (by simp) (congrArg Value.int (nchar16 h16)) ?_
    exact ⟨_, rfl, rfl, rfl⟩
  | true =>
    refine Wk.if_t (q := 16) d16_4 (by decide) (by decide) (by decide) ?_
    refine Wk.aload_n (q := 17) d16_16 rfl rfl (by first | rfl | assumption) ?_
    refine Wk.getfield (q := 20) (C := "java/lang/String") (lay := layS) 0 d16_17 rfl (hw _ (List.mem_of_getElem? (i := 26) rfl)) Via.refl (by repeat (first | exact List.mem_cons_self | assumption | refine List.mem_cons_of_mem _ ?_)) rfl (by rfl) ?_
    refine Wk.iload_n (q := 21) d16_20 rfl rfl ?_
    refine Wk.static (q := 24) [_, _] _ 0 d16_21 rfl (hw _ (List.mem_of_getElem? (i := 128) rfl)) (hw _ (List.mem_of_getElem? (i := 129) rfl)) (hw _ (List.mem_of_getElem? (i := 52) rfl)) (hw _ (List.mem_of_getElem? (i := 130) rfl)) ar_7 (by decide) rfl rfl rfl rfl (ct_u16At hw hE hU hO hc hl hi hb) (by first | decide | (dsimp only; omega) | omega) (by first | decide | (dsimp only; omega) | omega) (by first | decide | (dsimp only; omega) | omega) (by first | decide | (dsimp only; omega) | omega) (kv ?_)
    rintro _ _ ⟨rfl, rfl⟩
    refine Wk.ireturn (t := .char) d16_24 rfl (by simp) (congrArg Value.int (nchar16 h16)) ?_
    exact ⟨_, rfl, rfl, rfl⟩

theorem ch16 (x : Int32) : 0 ≤ (x.toUInt32.toUInt16.toUInt32.toInt32).toInt ∧ (x.toUInt32.toUInt16.toUInt32.toInt32).toInt < 65536 := (c_i2c x).2
theorem chs_nil : Chars [] := fun _ h => nomatch h
theorem chs_cons {c : Int32} {cs : List Int32} (h : 0 ≤ c.toInt ∧ c.toInt < 65536) (t : Chars cs) : Chars (c :: cs) := fun x hx => (List.mem_cons.mp hx).elim (fun e => e ▸ h) (t x)
abbrev Hi (c : Int32) : Prop := ¬ c < 55296 ∧ c < 56320
abbrev Lo (c : Int32) : Prop := ¬ c < 56320 ∧ c < 57344
abbrev Okc (c : Int32) : Prop := c = 9 ∨ c = 10 ∨ c = 13 ∨ (¬ c < 32 ∧ ¬ 55295 < c) ∨ (¬ c < 57344 ∧ ¬ 65533 < c)
abbrev Xml (c : Int32) : Prop := Okc c ∨ (¬ c < 65536 ∧ ¬ 1114111 < c)
theorem lt_i (a b : Int32) : a < b ↔ a.toInt < b.toInt := Int32.lt_iff_toInt_lt
theorem hi_alt (c : Int32) : (¬ (56319 : Int32) < c) ↔ c < 56320 := by
  rw [lt_i, lt_i]; show ¬ (56319 : Int) < c.toInt ↔ c.toInt < (56320 : Int); omega
theorem lo_alt (c : Int32) : (¬ (57343 : Int32) < c) ↔ c < 57344 := by
  rw [lt_i, lt_i]; show ¬ (57343 : Int) < c.toInt ↔ c.toInt < (57344 : Int); omega
/-- the place behind the sign at i, if it is a good one -/
def st (xs : List Int32) (n i : Nat) : Option Nat := if Hi (xs.getD i 0) ∧ i + 1 < n ∧ Lo (xs.getD (i + 1) 0) then some (i + 2) else if Okc (xs.getD i 0) then some (i + 1) else none
def fu (xs : List Int32) (n : Nat) : Nat → Nat → Int32
  | 0, _ => -1
  | k + 1, i => if i < n then (match st xs n i with | some j => fu xs n k j | none => i.toInt32) else -1
set_option maxHeartbeats 4000000 in
theorem ct_isXml {l : Launch} {Z : State} {a0 : Array Value} (hw : ∀ d ∈ tables_1, d.before a0 Z = true) (hE : EW Z a0 EL0) {L : Store} {c : Int32} : Ct l Z EL0 (⟨"com/example/soapwright/soapwright/envelope/XmlText", "isXmlCharacter", "(I)Z"⟩ : MethodName) prog_23_method_4_code 1 (some .boolean) ({ frames := 0, cells := 0, slots := 0, locals := 0 } : Room) #[.int c] L (RV fun u M => u = .int (if Xml c then 1 else 0) ∧ M = L) := by
  refine Ct.of (a0 := a0) (Ls := [.val (.int _)]) (plainFor_of_name pn_4) (fun m => ef_i_1 m _) hE ?_
  have yes : Xml c → Wk l Z a0 EL0 (⟨"com/example/soapwright/soapwright/envelope/XmlText", "isXmlCharacter", "(I)Z"⟩ : MethodName) prog_23_method_4_code 1 (some .boolean) ({ frames := 0, cells := 0, slots := 0, locals := 0 } : Room) (RV fun u M => u = .int (if Xml c then 1 else 0) ∧ M = L) L 0 0 54 [.val (.int c)] [] := by
    intro h
    refine Wk.iconst (q := 55) (1) d20_54 rfl (by decide) ?_
    refine Wk.goto (q := 59) d20_55 (by decide) (by decide) ?_
    refine Wk.ireturn (t := .boolean) d20_59 rfl (by simp) (by rfl) ?_
    exact ⟨_, rfl, by rw [if_pos h], rfl⟩
  have no : ¬ Xml c → Wk l Z a0 EL0 (⟨"com/example/soapwright/soapwright/envelope/XmlText", "isXmlCharacter", "(I)Z"⟩ : MethodName) prog_23_method_4_code 1 (some .boolean) ({ frames := 0, cells := 0, slots := 0, locals := 0 } : Room) (RV fun u M => u = .int (if Xml c then 1 else 0) ∧ M = L) L 0 0 58 [.val (.int c)] [] := by
    intro h
    refine Wk.iconst (q := 59) (0) d20_58 rfl (by decide) ?_
    refine Wk.ireturn (t := .boolean) d20_59 rfl (by simp) (by rfl) ?_
    exact ⟨_, rfl, by rw [if_neg h], rfl⟩
  refine Wk.iload_n (q := 1) d20_0 rfl rfl ?_
  refine Wk.bipush (q := 3) (9) d20_1 rfl (by decide) ?_
  refine Wk.icmp_s (q := 54) (q' := 6) d20_3 (by decide) (by decide) rfl ?_ ?_
  · intro (h1 : c = 9)
    exact yes (Or.inl (Or.inl h1))
  intro (h1 : ¬ c = 9)
  refine Wk.iload_n (q := 7) d20_6 rfl rfl ?_
  refine Wk.bipush (q := 9) (10) d20_7 rfl (by decide) ?_
  refine Wk.icmp_s (q := 54) (q' := 12) d20_9 (by decide) (by decide) rfl ?_ ?_
  · intro (h2 : c = 10)
    exact yes (Or.inl (Or.inr (Or.inl h2)))
  intro (h2 : ¬ c = 10)
  refine Wk.iload_n (q := 13) d20_12 rfl rfl ?_
  refine Wk.bipush (q := 15) (13) d20_13 rfl (by decide) ?_
  refine Wk.icmp_s (q := 54) (q' := 18) d20_15 (by decide) (by decide) rfl ?_ ?_
  · intro (h3 : c = 13)
    exact yes (Or.inl (Or.inr (Or.inr (Or.inl h3))))
  intro (h3 : ¬ c = 13)
  have rest : ¬ (¬ c < 32 ∧ ¬ 55295 < c) → Wk l Z a0 EL0 (⟨"com/example/soapwright/soapwright/envelope/XmlText", "isXmlCharacter", "(I)Z"⟩ : MethodName) prog_23_method_4_code 1 (some .boolean) ({ frames := 0, cells := 0, slots := 0, locals := 0 } : Room) (RV fun u M => u = .int (if Xml c then 1 else 0) ∧ M = L) L 0 0 30 [.val (.int c)] [] := by
    intro h4
    have rest2 : ¬ (¬ c < 57344 ∧ ¬ 65533 < c) → Wk l Z a0 EL0 (⟨"com/example/soapwright/soapwright/envelope/XmlText", "isXmlCharacter", "(I)Z"⟩ : MethodName) prog_23_method_4_code 1 (some .boolean) ({ frames := 0, cells := 0, slots := 0, locals := 0 } : Room) (RV fun u M => u = .int (if Xml c then 1 else 0) ∧ M = L) L 0 0 42 [.val (.int c)] [] := by
      intro h5
      have hn : ¬ Okc c := by
        rintro (q | q | q | q | q)
        · exact h1 q
        · exact h2 q
        · exact h3 q
        · exact h4 q
        · exact h5 q
      refine Wk.iload_n (q := 43) d20_42 rfl rfl ?_
      refine Wk.ldc_int (q := 45) d20_43 rfl (hw _ (List.mem_of_getElem? (i := 144) rfl)) ?_
      refine Wk.icmp_s (q := 58) (q' := 48) d20_45 (by decide) (by decide) rfl ?_ ?_
      · intro (h6 : c < 65536)
        exact no (fun q => q.elim hn (fun z => z.1 h6))
      intro (h6 : ¬ c < 65536)
      refine Wk.iload_n (q := 49) d20_48 rfl rfl ?_
      refine Wk.ldc_int (q := 51) d20_49 rfl (hw _ (List.mem_of_getElem? (i := 157) rfl)) ?_
      refine Wk.icmp_s (q := 58) (q' := 54) d20_51 (by decide) (by decide) rfl ?_ ?_
      · intro (h7 : 1114111 < c)
        exact no (fun q => q.elim hn (fun z => z.2 h7))
      intro (h7 : ¬ 1114111 < c)
      exact yes (Or.inr ⟨h6, h7⟩)
    refine Wk.iload_n (q := 31) d20_30 rfl rfl ?_
    refine Wk.ldc_int (q := 33) d20_31 rfl (hw _ (List.mem_of_getElem? (i := 143) rfl)) ?_
    refine Wk.icmp_s (q := 42) (q' := 36) d20_33 (by decide) (by decide) rfl ?_ ?_
    · intro (h6 : c < 57344)
      exact rest2 (fun q => q.1 h6)
    intro (h6 : ¬ c < 57344)
    refine Wk.iload_n (q := 37) d20_36 rfl rfl ?_
    refine Wk.ldc_int (q := 39) d20_37 rfl (hw _ (List.mem_of_getElem? (i := 149) rfl)) ?_
    refine Wk.icmp_s (q := 54) (q' := 42) d20_39 (by decide) (by decide) rfl ?_ ?_
    · intro (h7 : ¬ 65533 < c)
      exact yes (Or.inl (Or.inr (Or.inr (Or.inr (Or.inr ⟨h6, h7⟩)))))
    intro (h7 : 65533 < c)
    exact rest2 (fun q => q.2 h7)
  refine Wk.iload_n (q := 19) d20_18 rfl rfl ?_
  refine Wk.bipush (q := 21) (32) d20_19 rfl (by decide) ?_
  refine Wk.icmp_s (q := 30) (q' := 24) d20_21 (by decide) (by decide) rfl ?_ ?_
  · intro (h6 : c < 32)
    exact rest (fun q => q.1 h6)
  intro (h6 : ¬ c < 32)
  refine Wk.iload_n (q := 25) d20_24 rfl rfl ?_
  refine Wk.ldc_int (q := 27) d20_25 rfl (hw _ (List.mem_of_getElem? (i := 96) rfl)) ?_
  refine Wk.icmp_s (q := 54) (q' := 30) d20_27 (by decide) (by decide) rfl ?_ ?_
  · intro (h7 : ¬ 55295 < c)
    exact yes (Or.inl (Or.inr (Or.inr (Or.inr (Or.inl ⟨h6, h7⟩)))))
  intro (h7 : 55295 < c)
  exact rest (fun q => q.2 h7)
set_option maxHeartbeats 4000000 in
theorem ct_okc {l : Launch} {Z : State} {a0 : Array Value} (hw : ∀ d ∈ tables_1, d.before a0 Z = true) (hE : EW Z a0 EL0) {L : Store} {c : Int32} : Ct l Z EL0 (⟨"com/example/soapwright/soapwright/envelope/XmlTextFirstUnwritablePinLaw", "ok", "(C)Z"⟩ : MethodName) method_4_code 1 (some .boolean) ({ frames := 0, cells := 0, slots := 0, locals := 0 } : Room) #[.int c] L (RV fun u M => u = .int (if Okc c then 1 else 0) ∧ M = L) := by
  refine Ct.of (a0 := a0) (Ls := [.val (.int _)]) (plainFor_of_name pn_5) (fun m => ef_i_1 m _) hE ?_
  have yes : Okc c → Wk l Z a0 EL0 (⟨"com/example/soapwright/soapwright/envelope/XmlTextFirstUnwritablePinLaw", "ok", "(C)Z"⟩ : MethodName) method_4_code 1 (some .boolean) ({ frames := 0, cells := 0, slots := 0, locals := 0 } : Room) (RV fun u M => u = .int (if Okc c then 1 else 0) ∧ M = L) L 0 0 42 [.val (.int c)] [] := by
    intro h
    refine Wk.iconst (q := 43) (1) d21_42 rfl (by decide) ?_
    refine Wk.goto (q := 47) d21_43 (by decide) (by decide) ?_
    refine Wk.ireturn (t := .boolean) d21_47 rfl (by simp) (by rfl) ?_
    exact ⟨_, rfl, by rw [if_pos h], rfl⟩
  have no : ¬ Okc c → Wk l Z a0 EL0 (⟨"com/example/soapwright/soapwright/envelope/XmlTextFirstUnwritablePinLaw", "ok", "(C)Z"⟩ : MethodName) method_4_code 1 (some .boolean) ({ frames := 0, cells := 0, slots := 0, locals := 0 } : Room) (RV fun u M => u = .int (if Okc c then 1 else 0) ∧ M = L) L 0 0 46 [.val (.int c)] [] := by
    intro h
    refine Wk.iconst (q := 47) (0) d21_46 rfl (by decide) ?_
    refine Wk.ireturn (t := .boolean) d21_47 rfl (by simp) (by rfl) ?_
    exact ⟨_, rfl, by rw [if_neg h], rfl⟩
  refine Wk.iload_n (q := 1) d21_0 rfl rfl ?_
  refine Wk.bipush (q := 3) (9) d21_1 rfl (by decide) ?_
  refine Wk.icmp_s (q := 42) (q' := 6) d21_3 (by decide) (by decide) rfl ?_ ?_
  · intro (h1 : c = 9)
    exact yes (Or.inl h1)
  intro (h1 : ¬ c = 9)
  refine Wk.iload_n (q := 7) d21_6 rfl rfl ?_
  refine Wk.bipush (q := 9) (10) d21_7 rfl (by decide) ?_
  refine Wk.icmp_s (q := 42) (q' := 12) d21_9 (by decide) (by decide) rfl ?_ ?_
  · intro (h2 : c = 10)
    exact yes (Or.inr (Or.inl h2))
  intro (h2 : ¬ c = 10)
  refine Wk.iload_n (q := 13) d21_12 rfl rfl ?_
  refine Wk.bipush (q := 15) (13) d21_13 rfl (by decide) ?_
  refine Wk.icmp_s (q := 42) (q' := 18) d21_15 (by decide) (by decide) rfl ?_ ?_
  · intro (h3 : c = 13)
    exact yes (Or.inr (Or.inr (Or.inl h3)))
  intro (h3 : ¬ c = 13)
  have rest : ¬ (¬ c < 32 ∧ ¬ 55295 < c) → Wk l Z a0 EL0 (⟨"com/example/soapwright/soapwright/envelope/XmlTextFirstUnwritablePinLaw", "ok", "(C)Z"⟩ : MethodName) method_4_code 1 (some .boolean) ({ frames := 0, cells := 0, slots := 0, locals := 0 } : Room) (RV fun u M => u = .int (if Okc c then 1 else 0) ∧ M = L) L 0 0 30 [.val (.int c)] [] := by
    intro h4
    have hn : ¬ (¬ c < 57344 ∧ ¬ 65533 < c) → ¬ Okc c := by
      rintro h5 (q | q | q | q | q)
      · exact h1 q
      · exact h2 q
      · exact h3 q
      · exact h4 q
      · exact h5 q
    refine Wk.iload_n (q := 31) d21_30 rfl rfl ?_
    refine Wk.ldc_int (q := 33) d21_31 rfl (hw _ (List.mem_of_getElem? (i := 147) rfl)) ?_
    refine Wk.icmp_s (q := 46) (q' := 36) d21_33 (by decide) (by decide) rfl ?_ ?_
    · intro (h6 : c < 57344)
      exact no (hn (fun q => q.1 h6))
    intro (h6 : ¬ c < 57344)
    refine Wk.iload_n (q := 37) d21_36 rfl rfl ?_
    refine Wk.ldc_int (q := 39) d21_37 rfl (hw _ (List.mem_of_getElem? (i := 150) rfl)) ?_
    refine Wk.icmp_s (q := 46) (q' := 42) d21_39 (by decide) (by decide) rfl ?_ ?_
    · intro (h7 : 65533 < c)
      exact no (hn (fun q => q.2 h7))
    intro (h7 : ¬ 65533 < c)
    exact yes (Or.inr (Or.inr (Or.inr (Or.inr ⟨h6, h7⟩))))
  refine Wk.iload_n (q := 19) d21_18 rfl rfl ?_
  refine Wk.bipush (q := 21) (32) d21_19 rfl (by decide) ?_
  refine Wk.icmp_s (q := 30) (q' := 24) d21_21 (by decide) (by decide) rfl ?_ ?_
  · intro (h6 : c < 32)
    exact rest (fun q => q.1 h6)
  intro (h6 : ¬ c < 32)
  refine Wk.iload_n (q := 25) d21_24 rfl rfl ?_
  refine Wk.ldc_int (q := 27) d21_25 rfl (hw _ (List.mem_of_getElem? (i := 108) rfl)) ?_
  refine Wk.icmp_s (q := 42) (q' := 30) d21_27 (by decide) (by decide) rfl ?_ ?_
  · intro (h7 : ¬ 55295 < c)
    exact yes (Or.inr (Or.inr (Or.inr (Or.inl ⟨h6, h7⟩))))
  intro (h7 : 55295 < c)
  exact rest (fun q => q.2 h7)
theorem ct_isHi {l : Launch} {Z : State} {a0 : Array Value} (hw : ∀ d ∈ tables_1, d.before a0 Z = true) (hE : EW Z a0 EL0) {L : Store} {c : Int32} : Ct l Z EL0 (⟨"java/lang/Character", "isHighSurrogate", "(C)Z"⟩ : MethodName) jdk_89_method_14_code 1 (some .boolean) ({ frames := 0, cells := 0, slots := 0, locals := 0 } : Room) #[.int c] L (RV fun u M => u = .int (if Hi c then 1 else 0) ∧ M = L) := by
  refine Ct.of (a0 := a0) (Ls := [.val (.int _)]) (plainFor_of_name pn_6) (fun m => ef_i_1 m _) hE ?_
  refine Wk.iload_n (q := 1) d22_0 rfl rfl ?_
  refine Wk.ldc_int (q := 3) d22_1 rfl (hw _ (List.mem_of_getElem? (i := 92) rfl)) ?_
  refine Wk.icmp_s (q := 16) (q' := 6) d22_3 (by decide) (by decide) rfl ?_ ?_
  · intro (h1 : c < 55296)
    refine Wk.iconst (q := 17) (0) d22_16 rfl (by decide) ?_
    refine Wk.ireturn (t := .boolean) d22_17 rfl (by simp) (by rfl) ?_
    exact ⟨_, rfl, by rw [if_neg (fun q => q.1 h1)], rfl⟩
  intro (h1 : ¬ c < 55296)
  refine Wk.iload_n (q := 7) d22_6 rfl rfl ?_
  refine Wk.ldc_int (q := 9) d22_7 rfl (hw _ (List.mem_of_getElem? (i := 138) rfl)) ?_
  refine Wk.icmp_s (q := 16) (q' := 12) d22_9 (by decide) (by decide) rfl ?_ ?_
  · intro (h2 : ¬ c < 56320)
    refine Wk.iconst (q := 17) (0) d22_16 rfl (by decide) ?_
    refine Wk.ireturn (t := .boolean) d22_17 rfl (by simp) (by rfl) ?_
    exact ⟨_, rfl, by rw [if_neg (fun q => h2 q.2)], rfl⟩
  intro (h2 : c < 56320)
  refine Wk.iconst (q := 13) (1) d22_12 rfl (by decide) ?_
  refine Wk.goto (q := 17) d22_13 (by decide) (by decide) ?_
  refine Wk.ireturn (t := .boolean) d22_17 rfl (by simp) (by rfl) ?_
  exact ⟨_, rfl, by rw [if_pos ⟨h1, h2⟩], rfl⟩
theorem ct_isLo {l : Launch} {Z : State} {a0 : Array Value} (hw : ∀ d ∈ tables_1, d.before a0 Z = true) (hE : EW Z a0 EL0) {L : Store} {c : Int32} : Ct l Z EL0 (⟨"java/lang/Character", "isLowSurrogate", "(C)Z"⟩ : MethodName) jdk_89_method_15_code 1 (some .boolean) ({ frames := 0, cells := 0, slots := 0, locals := 0 } : Room) #[.int c] L (RV fun u M => u = .int (if Lo c then 1 else 0) ∧ M = L) := by
  refine Ct.of (a0 := a0) (Ls := [.val (.int _)]) (plainFor_of_name pn_6) (fun m => ef_i_1 m _) hE ?_
  refine Wk.iload_n (q := 1) d23_0 rfl rfl ?_
  refine Wk.ldc_int (q := 3) d23_1 rfl (hw _ (List.mem_of_getElem? (i := 138) rfl)) ?_
  refine Wk.icmp_s (q := 16) (q' := 6) d23_3 (by decide) (by decide) rfl ?_ ?_
  · intro (h1 : c < 56320)
    refine Wk.iconst (q := 17) (0) d23_16 rfl (by decide) ?_
    refine Wk.ireturn (t := .boolean) d23_17 rfl (by simp) (by rfl) ?_
    exact ⟨_, rfl, by rw [if_neg (fun q => q.1 h1)], rfl⟩
  intro (h1 : ¬ c < 56320)
  refine Wk.iload_n (q := 7) d23_6 rfl rfl ?_
  refine Wk.ldc_int (q := 9) d23_7 rfl (hw _ (List.mem_of_getElem? (i := 151) rfl)) ?_
  refine Wk.icmp_s (q := 16) (q' := 12) d23_9 (by decide) (by decide) rfl ?_ ?_
  · intro (h2 : ¬ c < 57344)
    refine Wk.iconst (q := 17) (0) d23_16 rfl (by decide) ?_
    refine Wk.ireturn (t := .boolean) d23_17 rfl (by simp) (by rfl) ?_
    exact ⟨_, rfl, by rw [if_neg (fun q => h2 q.2)], rfl⟩
  intro (h2 : c < 57344)
  refine Wk.iconst (q := 13) (1) d23_12 rfl (by decide) ?_
  refine Wk.goto (q := 17) d23_13 (by decide) (by decide) ?_
  refine Wk.ireturn (t := .boolean) d23_17 rfl (by simp) (by rfl) ?_
  exact ⟨_, rfl, by rw [if_pos ⟨h1, h2⟩], rfl⟩
theorem cp_rng {c d : Int32} (hc : Hi c) (hd : Lo d) : ¬ (c <<< ((10 : Int32) &&& 31) + d + (-56613888)) < 65536 ∧ ¬ 1114111 < (c <<< ((10 : Int32) &&& 31) + d + (-56613888)) := by
  have a1 := c_ishl c 10 10 (by decide)
  have a2 := c_iadd (c <<< ((10 : Int32) &&& 31)) d
  have a3 := c_iadd (c <<< ((10 : Int32) &&& 31) + d) (-56613888)
  have r1 := rng32 (c <<< ((10 : Int32) &&& 31))
  have r2 := rng32 (c <<< ((10 : Int32) &&& 31) + d)
  have r3 := rng32 (c <<< ((10 : Int32) &&& 31) + d + (-56613888))
  have e : ((-56613888 : Int32)).toInt = -56613888 := by decide
  have p : ((2 ^ 10 : Nat) : Int) = 1024 := rfl
  rw [p] at a1
  rw [e] at a3
  obtain ⟨h1, h2⟩ := hc
  obtain ⟨h3, h4⟩ := hd
  rw [lt_i] at h1 h2 h3 h4
  have q1 : ¬ c.toInt < 55296 := h1
  have q2 : c.toInt < 56320 := h2
  have q3 : ¬ d.toInt < 56320 := h3
  have q4 : d.toInt < 57344 := h4
  rw [lt_i, lt_i]
  show ¬ _ < (65536 : Int) ∧ ¬ (1114111 : Int) < _
  omega
theorem ct_toCp {l : Launch} {Z : State} {a0 : Array Value} (hw : ∀ d ∈ tables_1, d.before a0 Z = true) (hE : EW Z a0 EL0) {L : Store} {c d : Int32} (hc : Hi c) (hd : Lo d) : Ct l Z EL0 (⟨"java/lang/Character", "toCodePoint", "(CC)I"⟩ : MethodName) jdk_89_method_19_code 2 (some .int) ({ frames := 0, cells := 0, slots := 0, locals := 0 } : Room) #[.int c, .int d] L (RV fun u M => ∃ v, u = .int v ∧ (¬ v < 65536 ∧ ¬ 1114111 < v) ∧ M = L) := by
  refine Ct.of (a0 := a0) (Ls := [.val (.int _), .val (.int _)]) (plainFor_of_name pn_6) (fun m => ef_ii_2 m _ _) hE ?_
  refine Wk.iload_n (q := 1) d24_0 rfl rfl ?_
  refine Wk.bipush (q := 3) (10) d24_1 rfl (by decide) ?_
  refine Wk.ishl (q := 4) d24_3 rfl ?_
  refine Wk.iload_n (q := 5) d24_4 rfl rfl ?_
  refine Wk.iadd (q := 6) d24_5 rfl ?_
  refine Wk.ldc_int (q := 8) d24_6 rfl (hw _ (List.mem_of_getElem? (i := 156) rfl)) ?_
  refine Wk.iadd (q := 9) d24_8 rfl ?_
  refine Wk.ireturn (t := .int) d24_9 rfl (by simp) (by rfl) ?_
  exact ⟨_, rfl, _, rfl, cp_rng hc hd, rfl⟩
theorem ct_chCnt {l : Launch} {Z : State} {a0 : Array Value} (hw : ∀ d ∈ tables_1, d.before a0 Z = true) (hE : EW Z a0 EL0) {L : Store} {c : Int32} : Ct l Z EL0 (⟨"java/lang/Character", "charCount", "(I)I"⟩ : MethodName) jdk_89_method_18_code 1 (some .int) ({ frames := 0, cells := 0, slots := 0, locals := 0 } : Room) #[.int c] L (RV fun u M => u = .int (if c < 65536 then 1 else 2) ∧ M = L) := by
  refine Ct.of (a0 := a0) (Ls := [.val (.int _)]) (plainFor_of_name pn_6) (fun m => ef_i_1 m _) hE ?_
  refine Wk.iload_n (q := 1) d25_0 rfl rfl ?_
  refine Wk.ldc_int (q := 3) d25_1 rfl (hw _ (List.mem_of_getElem? (i := 100) rfl)) ?_
  refine Wk.icmp_s (q := 10) (q' := 6) d25_3 (by decide) (by decide) rfl ?_ ?_
  · intro (h : c < 65536)
    refine Wk.iconst (q := 11) (1) d25_10 rfl (by decide) ?_
    refine Wk.ireturn (t := .int) d25_11 rfl (by simp) (by rfl) ?_
    exact ⟨_, rfl, by rw [if_pos h], rfl⟩
  intro (h : ¬ c < 65536)
  refine Wk.iconst (q := 7) (2) d25_6 rfl (by decide) ?_
  refine Wk.goto (q := 11) d25_7 (by decide) (by decide) ?_
  refine Wk.ireturn (t := .int) d25_11 rfl (by simp) (by rfl) ?_
  exact ⟨_, rfl, by rw [if_neg h], rfl⟩
set_option maxHeartbeats 4000000 in
theorem ct_cpAt {l : Launch} {Z : State} {a0 : Array Value} (hw : ∀ d ∈ tables_1, d.before a0 Z = true) (hE : EW Z a0 EL0) (F : ∃ z, z ≠ (0 : Int32) ∧ Sta Z Z.heap "java/lang/String" "COMPACT_STRINGS" "Z" (.int z)) (hU : FU Z) (hO : FO Z) {L : Store} {s b : Addr} {f fb k : Bool} {cs : List Int32} (hc : Chars cs) (hk : k = false ↔ Lat cs) (hl : cs.length < 1000000) {i : Nat} (hi : i < cs.length) (hs : (s, f, OB Z "java/lang/String" layS [.ref b, .int (cdr k)]) ∈ L) (hb : (b, fb, AR Z .byte ((enc k cs).map .int)) ∈ L) :
    Ct l Z EL0 (⟨"java/lang/Character", "codePointAt", "(Ljava/lang/CharSequence;I)I"⟩ : MethodName) jdk_89_method_20_code 4 (some .int) ({ frames := 5, cells := 0, slots := 0, locals := 66 } : Room) #[.ref s, .int i.toInt32] L (RV fun u M => ∃ v, u = .int v ∧ M = L ∧ ((Hi cs[i] ∧ (∃ h : i + 1 < cs.length, Lo cs[i + 1]) ∧ ¬ v < 65536 ∧ ¬ 1114111 < v) ∨ (¬ (Hi cs[i] ∧ ∃ h : i + 1 < cs.length, Lo cs[i + 1]) ∧ v = cs[i]))) := by
  refine Ct.of (a0 := a0) (Ls := [.val (.ref _), .val (.int _), .unset, .unset]) (plainFor_of_name pn_6) (fun m => ef_ri_4 m _ _) hE ?_
  refine Wk.aload_n (q := 1) d26_0 rfl rfl (by first | rfl | assumption) ?_
  refine Wk.iload_n (q := 2) d26_1 rfl rfl ?_
  refine Wk.interface (q := 7) (C := "java/lang/String") [_] _ 0 d26_2 rfl (hw _ (List.mem_of_getElem? (i := 64) rfl)) (hw _ (List.mem_of_getElem? (i := 65) rfl)) (hw _ (List.mem_of_getElem? (i := 66) rfl)) (by rfl) (hw _ (List.mem_of_getElem? (i := 67) rfl)) (hw _ (List.mem_of_getElem? (i := 68) rfl)) (hw _ (List.mem_of_getElem? (i := 69) rfl)) (hw _ (List.mem_of_getElem? (i := 70) rfl)) (hw _ (List.mem_of_getElem? (i := 39) rfl)) (hw _ (List.mem_of_getElem? (i := 9) rfl)) (hw _ (List.mem_of_getElem? (i := 71) rfl)) ar_14 (by decide) (by repeat (first | exact List.mem_cons_self | assumption | refine List.mem_cons_of_mem _ ?_)) rfl rfl rfl rfl (ct_atA hw hE F hU hO hc hk hl hi hs hb) (by first | decide | (dsimp only; omega) | omega) (by first | decide | (dsimp only; omega) | omega) (by first | decide | (dsimp only; omega) | omega) (by first | decide | (dsimp only; omega) | omega) (kv ?_)
  rintro _ _ ⟨rfl, rfl⟩
  refine Wk.istore_n (q := 8) d26_7 rfl (LS1.there (LS1.there (LS1.here (by first | exact One.u | exact One.val rfl | assumption)))) ?_
  refine Wk.iload_n (q := 9) d26_8 rfl rfl ?_
  refine Wk.static (q := 12) [_] _ 0 d26_9 rfl (hw _ (List.mem_of_getElem? (i := 89) rfl)) (hw _ (List.mem_of_getElem? (i := 90) rfl)) (hw _ (List.mem_of_getElem? (i := 62) rfl)) (hw _ (List.mem_of_getElem? (i := 91) rfl)) ar_15 (by decide) rfl rfl rfl rfl (ct_isHi hw hE) (by first | decide | (dsimp only; omega) | omega) (by first | decide | (dsimp only; omega) | omega) (by first | decide | (dsimp only; omega) | omega) (by first | decide | (dsimp only; omega) | omega) (kv ?_)
  rintro _ _ ⟨rfl, rfl⟩
  by_cases hh : Hi cs[i]
  · rw [if_pos hh]
    refine Wk.if_f (q := 15) d26_12 rfl (by decide) ?_
    refine Wk.iinc (q := 18) (1) d26_15 rfl (by decide) rfl (LS1.there (LS1.here (by first | exact One.u | exact One.val rfl | assumption))) ?_
    rw [n32_succ]
    refine Wk.iload_n (q := 19) d26_18 rfl rfl ?_
    refine Wk.aload_n (q := 20) d26_19 rfl rfl (by first | rfl | assumption) ?_
    refine Wk.interface (q := 25) (C := "java/lang/String") [] _ 1 d26_20 rfl (hw _ (List.mem_of_getElem? (i := 139) rfl)) (hw _ (List.mem_of_getElem? (i := 33) rfl)) (hw _ (List.mem_of_getElem? (i := 34) rfl)) (by rfl) (hw _ (List.mem_of_getElem? (i := 35) rfl)) (hw _ (List.mem_of_getElem? (i := 36) rfl)) (hw _ (List.mem_of_getElem? (i := 37) rfl)) (hw _ (List.mem_of_getElem? (i := 38) rfl)) (hw _ (List.mem_of_getElem? (i := 39) rfl)) (hw _ (List.mem_of_getElem? (i := 9) rfl)) (hw _ (List.mem_of_getElem? (i := 40) rfl)) ar_16 (by decide) (by repeat (first | exact List.mem_cons_self | assumption | refine List.mem_cons_of_mem _ ?_)) rfl rfl rfl rfl (ct_lenA hw hE F hl hs hb) (by first | decide | (dsimp only; omega) | omega) (by first | decide | (dsimp only; omega) | omega) (by first | decide | (dsimp only; omega) | omega) (by first | decide | (dsimp only; omega) | omega) (kv ?_)
    rintro _ _ ⟨rfl, rfl⟩
    by_cases h1 : i + 1 < cs.length
    · refine Wk.icmp_f (q := 28) d26_25 rfl (XT.ii_ge_f ((n32_lt (by omega) (by omega)).mpr h1)) ?_
      refine Wk.aload_n (q := 29) d26_28 rfl rfl (by first | rfl | assumption) ?_
      refine Wk.iload_n (q := 30) d26_29 rfl rfl ?_
      refine Wk.interface (q := 35) (C := "java/lang/String") [_] _ 0 d26_30 rfl (hw _ (List.mem_of_getElem? (i := 64) rfl)) (hw _ (List.mem_of_getElem? (i := 65) rfl)) (hw _ (List.mem_of_getElem? (i := 66) rfl)) (by rfl) (hw _ (List.mem_of_getElem? (i := 67) rfl)) (hw _ (List.mem_of_getElem? (i := 68) rfl)) (hw _ (List.mem_of_getElem? (i := 69) rfl)) (hw _ (List.mem_of_getElem? (i := 70) rfl)) (hw _ (List.mem_of_getElem? (i := 39) rfl)) (hw _ (List.mem_of_getElem? (i := 9) rfl)) (hw _ (List.mem_of_getElem? (i := 71) rfl)) ar_14 (by decide) (by repeat (first | exact List.mem_cons_self | assumption | refine List.mem_cons_of_mem _ ?_)) rfl rfl rfl rfl (ct_atA hw hE F hU hO hc hk hl h1 hs hb) (by first | decide | (dsimp only; omega) | omega) (by first | decide | (dsimp only; omega) | omega) (by first | decide | (dsimp only; omega) | omega) (by first | decide | (dsimp only; omega) | omega) (kv ?_)
      rintro _ _ ⟨rfl, rfl⟩
      refine Wk.istore_n (q := 36) d26_35 rfl (LS1.there (LS1.there (LS1.there (LS1.here (by first | exact One.u | exact One.val rfl | assumption))))) ?_
      refine Wk.iload_n (q := 37) d26_36 rfl rfl ?_
      refine Wk.static (q := 40) [_] _ 0 d26_37 rfl (hw _ (List.mem_of_getElem? (i := 140) rfl)) (hw _ (List.mem_of_getElem? (i := 141) rfl)) (hw _ (List.mem_of_getElem? (i := 62) rfl)) (hw _ (List.mem_of_getElem? (i := 142) rfl)) ar_15 (by decide) rfl rfl rfl rfl (ct_isLo hw hE) (by first | decide | (dsimp only; omega) | omega) (by first | decide | (dsimp only; omega) | omega) (by first | decide | (dsimp only; omega) | omega) (by first | decide | (dsimp only; omega) | omega) (kv ?_)
      rintro _ _ ⟨rfl, rfl⟩
      by_cases hlo : Lo cs[i + 1]
      · rw [if_pos hlo]
        refine Wk.if_f (q := 43) d26_40 rfl (by decide) ?_
        refine Wk.iload_n (q := 44) d26_43 rfl rfl ?_
        refine Wk.iload_n (q := 45) d26_44 rfl rfl ?_
        refine Wk.static (q := 48) [_, _] _ 0 d26_45 rfl (hw _ (List.mem_of_getElem? (i := 153) rfl)) (hw _ (List.mem_of_getElem? (i := 154) rfl)) (hw _ (List.mem_of_getElem? (i := 62) rfl)) (hw _ (List.mem_of_getElem? (i := 155) rfl)) ar_17 (by decide) rfl rfl rfl rfl (ct_toCp hw hE hh hlo) (by first | decide | (dsimp only; omega) | omega) (by first | decide | (dsimp only; omega) | omega) (by first | decide | (dsimp only; omega) | omega) (by first | decide | (dsimp only; omega) | omega) (kv ?_)
        rintro _ _ ⟨v, rfl, hv, rfl⟩
        refine Wk.ireturn (t := .int) d26_48 rfl (by simp) (by rfl) ?_
        exact ⟨_, rfl, v, rfl, rfl, Or.inl ⟨hh, ⟨h1, hlo⟩, hv⟩⟩
      · rw [if_neg hlo]
        refine Wk.if_t (q := 49) d26_40 (by decide) (by decide) (by decide) ?_
        refine Wk.iload_n (q := 50) d26_49 rfl rfl ?_
        refine Wk.ireturn (t := .int) d26_50 rfl (by simp) (by rfl) ?_
        exact ⟨_, rfl, _, rfl, rfl, Or.inr ⟨fun q => hlo q.2.2, rfl⟩⟩
    · refine Wk.icmp_t (q := 49) d26_25 (by decide) (by decide) (XT.ii_ge_t (fun q => h1 ((n32_lt (by omega) (by omega)).mp q))) ?_
      refine Wk.iload_n (q := 50) d26_49 rfl rfl ?_
      refine Wk.ireturn (t := .int) d26_50 rfl (by simp) (by rfl) ?_
      exact ⟨_, rfl, _, rfl, rfl, Or.inr ⟨fun q => h1 q.2.1, rfl⟩⟩
  · rw [if_neg hh]
    refine Wk.if_t (q := 49) d26_12 (by decide) (by decide) (by decide) ?_
    refine Wk.iload_n (q := 50) d26_49 rfl rfl ?_
    refine Wk.ireturn (t := .int) d26_50 rfl (by simp) (by rfl) ?_
    exact ⟨_, rfl, _, rfl, rfl, Or.inr ⟨fun q => hh q.1, rfl⟩⟩
theorem getD_get {cs : List Int32} {i : Nat} (h : i < cs.length) : cs.getD i 0 = cs[i] := by simp [List.getD, h]
set_option maxHeartbeats 4000000 in
theorem wk_fstU {l : Launch} {Z : State} {a0 : Array Value} (hw : ∀ d ∈ tables_1, d.before a0 Z = true) (hE : EW Z a0 EL0) (F : ∃ z, z ≠ (0 : Int32) ∧ Sta Z Z.heap "java/lang/String" "COMPACT_STRINGS" "Z" (.int z)) (hU : FU Z) (hO : FO Z) {L : Store} {s b : Addr} {f fb k : Bool} {cs : List Int32} (hc : Chars cs) (hk : k = false ↔ Lat cs) (hl : cs.length < 1000000) (hs : (s, f, OB Z "java/lang/String" layS [.ref b, .int (cdr k)]) ∈ L) (hb : (b, fb, AR Z .byte ((enc k cs).map .int)) ∈ L) {cb sb : Nat} : ∀ (m i : Nat) (o : Slot), cs.length ≤ i + m → i ≤ cs.length + 1 → One o →
    Wk l Z a0 EL0 (⟨"com/example/soapwright/soapwright/envelope/XmlText", "firstUnwritable", "(Ljava/lang/CharSequence;)I"⟩ : MethodName) prog_23_method_2_code 3 (some .int) ({ frames := 6, cells := 0, slots := 0, locals := 81 } : Room) (RV fun u M => u = .int (fu cs cs.length (m + 1) i) ∧ M = L) L cb sb 2 [.val (.ref s), .val (.int i.toInt32), o] [] := by
  intro m
  induction m with
  | zero =>
    intro i o hi h2 ho
    refine Wk.iload_n (q := 3) d27_2 rfl rfl ?_
    refine Wk.aload_n (q := 4) d27_3 rfl rfl (by first | rfl | assumption) ?_
    refine Wk.interface (q := 9) (C := "java/lang/String") [] _ 1 d27_4 rfl (hw _ (List.mem_of_getElem? (i := 32) rfl)) (hw _ (List.mem_of_getElem? (i := 33) rfl)) (hw _ (List.mem_of_getElem? (i := 34) rfl)) (by rfl) (hw _ (List.mem_of_getElem? (i := 35) rfl)) (hw _ (List.mem_of_getElem? (i := 36) rfl)) (hw _ (List.mem_of_getElem? (i := 37) rfl)) (hw _ (List.mem_of_getElem? (i := 38) rfl)) (hw _ (List.mem_of_getElem? (i := 39) rfl)) (hw _ (List.mem_of_getElem? (i := 9) rfl)) (hw _ (List.mem_of_getElem? (i := 40) rfl)) ar_16 (by decide) (by repeat (first | exact List.mem_cons_self | assumption | refine List.mem_cons_of_mem _ ?_)) rfl rfl rfl rfl (ct_lenA hw hE F hl hs hb) (by first | decide | (dsimp only; omega) | omega) (by first | decide | (dsimp only; omega) | omega) (by first | decide | (dsimp only; omega) | omega) (by first | decide | (dsimp only; omega) | omega) (kv ?_)
    rintro _ _ ⟨rfl, rfl⟩
    refine Wk.icmp_t (q := 37) d27_9 (by decide) (by decide) (XT.ii_ge_t (fun q => by have := (n32_lt (by omega) (by omega)).mp q; omega)) ?_
    refine Wk.iconst (q := 38) ((-1)) d27_37 rfl (by decide) ?_
    refine Wk.ireturn (t := .int) d27_38 rfl (by simp) (by rfl) ?_
    exact ⟨_, rfl, by rw [fu, if_neg (by omega)], rfl⟩
  | succ m ih =>
    intro i o hi h2 ho
    refine Wk.iload_n (q := 3) d27_2 rfl rfl ?_
    refine Wk.aload_n (q := 4) d27_3 rfl rfl (by first | rfl | assumption) ?_
    refine Wk.interface (q := 9) (C := "java/lang/String") [] _ 1 d27_4 rfl (hw _ (List.mem_of_getElem? (i := 32) rfl)) (hw _ (List.mem_of_getElem? (i := 33) rfl)) (hw _ (List.mem_of_getElem? (i := 34) rfl)) (by rfl) (hw _ (List.mem_of_getElem? (i := 35) rfl)) (hw _ (List.mem_of_getElem? (i := 36) rfl)) (hw _ (List.mem_of_getElem? (i := 37) rfl)) (hw _ (List.mem_of_getElem? (i := 38) rfl)) (hw _ (List.mem_of_getElem? (i := 39) rfl)) (hw _ (List.mem_of_getElem? (i := 9) rfl)) (hw _ (List.mem_of_getElem? (i := 40) rfl)) ar_16 (by decide) (by repeat (first | exact List.mem_cons_self | assumption | refine List.mem_cons_of_mem _ ?_)) rfl rfl rfl rfl (ct_lenA hw hE F hl hs hb) (by first | decide | (dsimp only; omega) | omega) (by first | decide | (dsimp only; omega) | omega) (by first | decide | (dsimp only; omega) | omega) (by first | decide | (dsimp only; omega) | omega) (kv ?_)
    rintro _ _ ⟨rfl, rfl⟩
    by_cases hil : i < cs.length
    · refine Wk.icmp_f (q := 12) d27_9 rfl (XT.ii_ge_f ((n32_lt (by omega) (by omega)).mpr hil)) ?_
      refine Wk.aload_n (q := 13) d27_12 rfl rfl (by first | rfl | assumption) ?_
      refine Wk.iload_n (q := 14) d27_13 rfl rfl ?_
      refine Wk.static (q := 17) [_, _] _ 0 d27_14 rfl (hw _ (List.mem_of_getElem? (i := 60) rfl)) (hw _ (List.mem_of_getElem? (i := 61) rfl)) (hw _ (List.mem_of_getElem? (i := 62) rfl)) (hw _ (List.mem_of_getElem? (i := 63) rfl)) ar_18 (by decide) rfl rfl rfl rfl (ct_cpAt hw hE F hU hO hc hk hl hil hs hb) (by first | decide | (dsimp only; omega) | omega) (by first | decide | (dsimp only; omega) | omega) (by first | decide | (dsimp only; omega) | omega) (by first | decide | (dsimp only; omega) | omega) (kv ?_)
      rintro _ _ ⟨v, rfl, rfl, hv⟩
      refine Wk.istore_n (q := 18) d27_17 rfl (LS1.there (LS1.there (LS1.here (by first | exact One.u | exact One.val rfl | assumption)))) ?_
      refine Wk.iload_n (q := 19) d27_18 rfl rfl ?_
      refine Wk.static (q := 22) [_] _ 0 d27_19 rfl (hw _ (List.mem_of_getElem? (i := 93) rfl)) (hw _ (List.mem_of_getElem? (i := 94) rfl)) (hw _ (List.mem_of_getElem? (i := 30) rfl)) (hw _ (List.mem_of_getElem? (i := 95) rfl)) ar_19 (by decide) rfl rfl rfl rfl (ct_isXml hw hE) (by first | decide | (dsimp only; omega) | omega) (by first | decide | (dsimp only; omega) | omega) (by first | decide | (dsimp only; omega) | omega) (by first | decide | (dsimp only; omega) | omega) (kv ?_)
      rintro _ _ ⟨rfl, rfl⟩
      have hci := hc cs[i] (List.getElem_mem hil)
      rcases hv with ⟨hh, ⟨h1, hlo⟩, hv1, hv2⟩ | ⟨hn, rfl⟩
      · have hst : st cs cs.length i = some (i + 2) := by
          rw [st, if_pos]
          rw [getD_get hil, getD_get h1]
          exact ⟨hh, h1, hlo⟩
        rw [if_pos (Or.inr ⟨hv1, hv2⟩)]
        refine Wk.if_t (q := 27) d27_22 (by decide) (by decide) (by decide) ?_
        refine Wk.iload_n (q := 28) d27_27 rfl rfl ?_
        refine Wk.iload_n (q := 29) d27_28 rfl rfl ?_
        refine Wk.static (q := 32) [_] _ 1 d27_29 rfl (hw _ (List.mem_of_getElem? (i := 97) rfl)) (hw _ (List.mem_of_getElem? (i := 98) rfl)) (hw _ (List.mem_of_getElem? (i := 62) rfl)) (hw _ (List.mem_of_getElem? (i := 99) rfl)) ar_4 (by decide) rfl rfl rfl rfl (ct_chCnt hw hE) (by first | decide | (dsimp only; omega) | omega) (by first | decide | (dsimp only; omega) | omega) (by first | decide | (dsimp only; omega) | omega) (by first | decide | (dsimp only; omega) | omega) (kv ?_)
        rintro _ _ ⟨rfl, rfl⟩
        rw [if_neg hv1]
        refine Wk.iadd (q := 33) d27_32 rfl ?_
        refine Wk.istore_n (q := 34) d27_33 rfl (LS1.there (LS1.here (by first | exact One.u | exact One.val rfl | assumption))) ?_
        refine Wk.goto (q := 2) d27_34 (by decide) (by decide) ?_
        rw [show i.toInt32 + 2 = (i + 2).toInt32 from (Int32.ofNat_add i 2).symm]
        rw [fu, if_pos hil, hst]
        exact ih (i + 2) _ (by omega) (by omega) (One.val rfl)
      · have hlt : cs[i] < 65536 := by rw [lt_i]; exact hci.2
        by_cases hok : Okc cs[i]
        · have hst : st cs cs.length i = some (i + 1) := by
            rw [st, if_neg, if_pos]
            · rw [getD_get hil]; exact hok
            · rintro ⟨q1, q2, q3⟩
              rw [getD_get hil] at q1
              rw [getD_get q2] at q3
              exact hn ⟨q1, q2, q3⟩
          rw [if_pos (Or.inl hok)]
          refine Wk.if_t (q := 27) d27_22 (by decide) (by decide) (by decide) ?_
          refine Wk.iload_n (q := 28) d27_27 rfl rfl ?_
          refine Wk.iload_n (q := 29) d27_28 rfl rfl ?_
          refine Wk.static (q := 32) [_] _ 1 d27_29 rfl (hw _ (List.mem_of_getElem? (i := 97) rfl)) (hw _ (List.mem_of_getElem? (i := 98) rfl)) (hw _ (List.mem_of_getElem? (i := 62) rfl)) (hw _ (List.mem_of_getElem? (i := 99) rfl)) ar_4 (by decide) rfl rfl rfl rfl (ct_chCnt hw hE) (by first | decide | (dsimp only; omega) | omega) (by first | decide | (dsimp only; omega) | omega) (by first | decide | (dsimp only; omega) | omega) (by first | decide | (dsimp only; omega) | omega) (kv ?_)
          rintro _ _ ⟨rfl, rfl⟩
          rw [if_pos hlt]
          refine Wk.iadd (q := 33) d27_32 rfl ?_
          refine Wk.istore_n (q := 34) d27_33 rfl (LS1.there (LS1.here (by first | exact One.u | exact One.val rfl | assumption))) ?_
          refine Wk.goto (q := 2) d27_34 (by decide) (by decide) ?_
          rw [n32_succ]
          rw [fu, if_pos hil, hst]
          exact ih (i + 1) _ (by omega) (by omega) (One.val rfl)
        · have hst : st cs cs.length i = none := by
            rw [st, if_neg, if_neg]
            · rw [getD_get hil]; exact hok
            · rintro ⟨q1, q2, q3⟩
              rw [getD_get hil] at q1
              rw [getD_get q2] at q3
              exact hn ⟨q1, q2, q3⟩
          rw [if_neg (fun q => q.elim hok (fun z => z.1 hlt))]
          refine Wk.if_f (q := 25) d27_22 rfl (by decide) ?_
          refine Wk.iload_n (q := 26) d27_25 rfl rfl ?_
          refine Wk.ireturn (t := .int) d27_26 rfl (by simp) (by rfl) ?_
          exact ⟨_, rfl, by rw [fu, if_pos hil, hst], rfl⟩
    · refine Wk.icmp_t (q := 37) d27_9 (by decide) (by decide) (XT.ii_ge_t (fun q => by have := (n32_lt (by omega) (by omega)).mp q; omega)) ?_
      refine Wk.iconst (q := 38) ((-1)) d27_37 rfl (by decide) ?_
      refine Wk.ireturn (t := .int) d27_38 rfl (by simp) (by rfl) ?_
      exact ⟨_, rfl, by rw [fu, if_neg hil], rfl⟩
theorem ct_fstU {l : Launch} {Z : State} {a0 : Array Value} (hw : ∀ d ∈ tables_1, d.before a0 Z = true) (hE : EW Z a0 EL0) (F : ∃ z, z ≠ (0 : Int32) ∧ Sta Z Z.heap "java/lang/String" "COMPACT_STRINGS" "Z" (.int z)) (hU : FU Z) (hO : FO Z) {L : Store} {s b : Addr} {f fb k : Bool} {cs : List Int32} (hc : Chars cs) (hk : k = false ↔ Lat cs) (hl : cs.length < 1000000) (hs : (s, f, OB Z "java/lang/String" layS [.ref b, .int (cdr k)]) ∈ L) (hb : (b, fb, AR Z .byte ((enc k cs).map .int)) ∈ L) :
    Ct l Z EL0 (⟨"com/example/soapwright/soapwright/envelope/XmlText", "firstUnwritable", "(Ljava/lang/CharSequence;)I"⟩ : MethodName) prog_23_method_2_code 3 (some .int) ({ frames := 6, cells := 0, slots := 0, locals := 81 } : Room) #[.ref s] L (RV fun u M => u = .int (fu cs cs.length (cs.length + 1) 0) ∧ M = L) := by
  refine Ct.of (a0 := a0) (Ls := [.val (.ref _), .unset, .unset]) (plainFor_of_name pn_4) (fun m => ef_r_3 m _) hE ?_
  refine Wk.iconst (q := 1) (0) d27_0 rfl (by decide) ?_
  refine Wk.istore_n (q := 2) d27_1 rfl (LS1.there (LS1.here (by first | exact One.u | exact One.val rfl | assumption))) ?_
  exact wk_fstU hw hE F hU hO hc hk hl hs hb cs.length 0 .unset (by omega) (by omega) One.u
theorem getD_take {xs : List Int32} {n i : Nat} (h : i < n) : (xs.take n).getD i 0 = xs.getD i 0 := by
  simp [List.getD, List.getElem?_take, h]
theorem st_take {xs : List Int32} {n i : Nat} (h : i < n) : st (xs.take n) n i = st xs n i := by
  unfold st
  rw [getD_take h]
  by_cases h1 : i + 1 < n
  · rw [getD_take h1]
  · simp only [h1, false_and, and_false]
theorem fu_take (xs : List Int32) (n : Nat) : ∀ k i, fu (xs.take n) n k i = fu xs n k i := by
  intro k
  induction k with
  | zero => intro i; rfl
  | succ k ih =>
    intro i
    unfold fu
    by_cases h : i < n
    · rw [if_pos h, if_pos h, st_take h]
      cases st xs n i with
      | none => rfl
      | some j => exact ih j
    · rw [if_neg h, if_neg h]
theorem st_gt {xs : List Int32} {n i j : Nat} (h : st xs n i = some j) : i + 1 ≤ j ∧ j ≤ i + 2 := by
  unfold st at h
  split at h
  · cases h; omega
  · split at h
    · cases h; omega
    · cases h
theorem fu_fuel (xs : List Int32) (n : Nat) : ∀ k k' i, n ≤ i + k → n ≤ i + k' → fu xs n k i = fu xs n k' i := by
  intro k
  induction k with
  | zero =>
    intro k' i h1 h2
    cases k' with
    | zero => rfl
    | succ k' => rw [fu, fu, if_neg (by omega)]
  | succ k ih =>
    intro k' i h1 h2
    cases k' with
    | zero => rw [fu, fu, if_neg (by omega)]
    | succ k' =>
      unfold fu
      by_cases h : i < n
      · rw [if_pos h, if_pos h]
        cases hs : st xs n i with
        | none => rfl
        | some j => exact ih k' j (by have := st_gt hs; omega) (by have := st_gt hs; omega)
      · rw [if_neg h, if_neg h]
theorem neg_back (x : Int32) : - (-x - 1) - 1 = x := by
  apply Int32.toInt_inj.mp
  have a1 := c_ineg x
  have a2 := c_isub (-x) 1
  have a3 := c_ineg (-x - 1)
  have a4 := c_isub (-(-x - 1)) 1
  have e : (1 : Int32).toInt = 1 := by decide
  have r1 := rng32 x
  have r2 := rng32 (- (-x - 1) - 1)
  rw [e] at a2 a4
  omega
theorem neg_lt {i : Nat} (h : i < 1000000) : - i.toInt32 - 1 < 0 := by
  have a1 := c_ineg i.toInt32
  have a2 := c_isub (-i.toInt32) 1
  have e : (1 : Int32).toInt = 1 := by decide
  rw [n32 (show i < 2 ^ 31 by omega)] at a1
  rw [e] at a2
  have r1 := rng32 (-i.toInt32)
  have r2 := rng32 (-i.toInt32 - 1)
  rw [lt_i]
  show _ < (0 : Int)
  omega
set_option maxHeartbeats 4000000 in
theorem ct_draw {l : Launch} {Z : State} {a0 : Array Value} (hw : ∀ d ∈ tables_1, d.before a0 Z = true) (hE : EW Z a0 EL0) {L : Store} {x : Int32} : Ct l Z EL0 (⟨"com/example/soapwright/soapwright/envelope/XmlTextFirstUnwritablePinLaw", "draw", "(I)C"⟩ : MethodName) method_3_code 3 (some .char) ({ frames := 0, cells := 0, slots := 0, locals := 0 } : Room) #[.int x] L (RV fun u M => (∃ c, u = .int c ∧ 0 ≤ c.toInt ∧ c.toInt < 65536) ∧ M = L) := by
  refine Ct.of (a0 := a0) (Ls := [.val (.int _), .unset, .unset]) (plainFor_of_name pn_5) (fun m => ef_i_3 m _) hE ?_
  refine Wk.iload_n (q := 1) d28_0 rfl rfl ?_
  refine Wk.bipush (q := 3) (16) d28_1 rfl (by decide) ?_
  refine Wk.iushr (q := 4) d28_3 rfl ?_
  refine Wk.iconst (q := 5) (3) d28_4 rfl (by decide) ?_
  refine Wk.iand (q := 6) d28_5 rfl ?_
  refine Wk.istore_n (q := 7) d28_6 rfl (LS1.there (LS1.here (by first | exact One.u | exact One.val rfl | assumption))) ?_
  refine Wk.iload_n (q := 8) d28_7 rfl rfl ?_
  refine Wk.iconst (q := 9) (1) d28_8 rfl (by decide) ?_
  refine Wk.icmp_s (q := 22) (q' := 12) d28_9 (by decide) (by decide) rfl ?_ ?_
  · intro _
    refine Wk.iload_n (q := 23) d28_22 rfl rfl ?_
    refine Wk.iconst (q := 24) (2) d28_23 rfl (by decide) ?_
    refine Wk.icmp_s (q := 37) (q' := 27) d28_24 (by decide) (by decide) rfl ?_ ?_
    · intro _
      refine Wk.iload_n (q := 38) d28_37 rfl rfl ?_
      refine Wk.iconst (q := 39) (3) d28_38 rfl (by decide) ?_
      refine Wk.icmp_s (q := 64) (q' := 42) d28_39 (by decide) (by decide) rfl ?_ ?_
      · intro _
        refine Wk.iload_n (q := 65) d28_64 rfl rfl ?_
        refine Wk.ldc_int (q := 67) d28_65 rfl (hw _ (List.mem_of_getElem? (i := 5) rfl)) ?_
        refine Wk.iand (q := 68) d28_67 rfl ?_
        refine Wk.i2c (q := 69) d28_68 rfl ?_
        refine Wk.ireturn (t := .char) d28_69 rfl (by simp) (congrArg Value.int (nchar16 (ch16 _))) ?_
        exact ⟨_, rfl, ⟨_, rfl, ch16 _⟩, rfl⟩
      · intro _
        refine Wk.iload_n (q := 43) d28_42 rfl rfl ?_
        refine Wk.bipush (q := 45) (31) d28_43 rfl (by decide) ?_
        refine Wk.iand (q := 46) d28_45 rfl ?_
        refine Wk.istore_n (q := 47) d28_46 rfl (LS1.there (LS1.there (LS1.here (by first | exact One.u | exact One.val rfl | assumption)))) ?_
        refine Wk.iload_n (q := 48) d28_47 rfl rfl ?_
        refine Wk.iconst (q := 49) (5) d28_48 rfl (by decide) ?_
        refine Wk.iushr (q := 50) d28_49 rfl ?_
        refine Wk.iconst (q := 51) (1) d28_50 rfl (by decide) ?_
        refine Wk.iand (q := 52) d28_51 rfl ?_
        refine Wk.if_s (q := 58) (q' := 55) d28_52 (by decide) (by decide) rfl ?_ ?_
        · intro _
          refine Wk.ldc_int (q := 60) d28_58 rfl (hw _ (List.mem_of_getElem? (i := 148) rfl)) ?_
          refine Wk.iload_n (q := 61) d28_60 rfl rfl ?_
          refine Wk.ior (q := 62) d28_61 rfl ?_
          refine Wk.i2c (q := 63) d28_62 rfl ?_
          refine Wk.ireturn (t := .char) d28_63 rfl (by simp) (congrArg Value.int (nchar16 (ch16 _))) ?_
          exact ⟨_, rfl, ⟨_, rfl, ch16 _⟩, rfl⟩
        · intro _
          refine Wk.iload_n (q := 56) d28_55 rfl rfl ?_
          refine Wk.i2c (q := 57) d28_56 rfl ?_
          refine Wk.ireturn (t := .char) d28_57 rfl (by simp) (congrArg Value.int (nchar16 (ch16 _))) ?_
          exact ⟨_, rfl, ⟨_, rfl, ch16 _⟩, rfl⟩
    · intro _
      refine Wk.ldc_int (q := 29) d28_27 rfl (hw _ (List.mem_of_getElem? (i := 146) rfl)) ?_
      refine Wk.iload_n (q := 30) d28_29 rfl rfl ?_
      refine Wk.sipush (q := 33) (1023) d28_30 rfl (by decide) ?_
      refine Wk.iand (q := 34) d28_33 rfl ?_
      refine Wk.ior (q := 35) d28_34 rfl ?_
      refine Wk.i2c (q := 36) d28_35 rfl ?_
      refine Wk.ireturn (t := .char) d28_36 rfl (by simp) (congrArg Value.int (nchar16 (ch16 _))) ?_
      exact ⟨_, rfl, ⟨_, rfl, ch16 _⟩, rfl⟩
  · intro _
    refine Wk.ldc_int (q := 14) d28_12 rfl (hw _ (List.mem_of_getElem? (i := 104) rfl)) ?_
    refine Wk.iload_n (q := 15) d28_14 rfl rfl ?_
    refine Wk.sipush (q := 18) (1023) d28_15 rfl (by decide) ?_
    refine Wk.iand (q := 19) d28_18 rfl ?_
    refine Wk.ior (q := 20) d28_19 rfl ?_
    refine Wk.i2c (q := 21) d28_20 rfl ?_
    refine Wk.ireturn (t := .char) d28_21 rfl (by simp) (congrArg Value.int (nchar16 (ch16 _))) ?_
    exact ⟨_, rfl, ⟨_, rfl, ch16 _⟩, rfl⟩
set_option maxHeartbeats 4000000 in
theorem ct_step {l : Launch} {Z : State} {a0 : Array Value} (hw : ∀ d ∈ tables_1, d.before a0 Z = true) (hE : EW Z a0 EL0) {L : Store} {a : Addr} {fa : Bool} {xs : List Int32} (hx : xs.length < 1000000) {n i : Nat} (hi : i < n) (hn : n ≤ xs.length) (ha : (a, fa, AR Z .char (xs.map .int)) ∈ L) :
    Ct l Z EL0 (⟨"com/example/soapwright/soapwright/envelope/XmlTextFirstUnwritablePinLaw", "step", "([CII)I"⟩ : MethodName) method_5_code 4 (some .int) ({ frames := 1, cells := 0, slots := 0, locals := 12 } : Room) #[.ref a, .int n.toInt32, .int i.toInt32] L (RV fun u M => u = .int (match st xs n i with | some j => j.toInt32 | none => - i.toInt32 - 1) ∧ M = L) := by
  have h1 : i < xs.length := by omega
  have tail : ¬ (Hi xs[i] ∧ ∃ h : i + 1 < n, Lo (xs[i + 1]'(by omega))) → Wk l Z a0 EL0 (⟨"com/example/soapwright/soapwright/envelope/XmlTextFirstUnwritablePinLaw", "step", "([CII)I"⟩ : MethodName) method_5_code 4 (some .int) ({ frames := 1, cells := 0, slots := 0, locals := 12 } : Room) (RV fun u M => u = .int (match st xs n i with | some j => j.toInt32 | none => - i.toInt32 - 1) ∧ M = L) L 0 0 47 [.val (.ref a), .val (.int n.toInt32), .val (.int i.toInt32), .val (.int xs[i])] [] := by
    intro hq
    have hno : ¬ (Hi (xs.getD i 0) ∧ i + 1 < n ∧ Lo (xs.getD (i + 1) 0)) := by
      rintro ⟨q1, q2, q3⟩
      rw [getD_get h1] at q1
      rw [getD_get (show i + 1 < xs.length by omega)] at q3
      exact hq ⟨q1, q2, q3⟩
    refine Wk.iload_n (q := 48) d29_47 rfl rfl ?_
    refine Wk.static (q := 51) [_] _ 0 d29_48 rfl (hw _ (List.mem_of_getElem? (i := 105) rfl)) (hw _ (List.mem_of_getElem? (i := 106) rfl)) (hw _ (List.mem_of_getElem? (i := 3) rfl)) (hw _ (List.mem_of_getElem? (i := 107) rfl)) ar_15 (by decide) rfl rfl rfl rfl (ct_okc hw hE) (by first | decide | (dsimp only; omega) | omega) (by first | decide | (dsimp only; omega) | omega) (by first | decide | (dsimp only; omega) | omega) (by first | decide | (dsimp only; omega) | omega) (kv ?_)
    rintro _ _ ⟨rfl, rfl⟩
    by_cases hok : Okc xs[i]
    · have hst : st xs n i = some (i + 1) := by rw [st, if_neg hno, if_pos (by rw [getD_get h1]; exact hok)]
      rw [if_pos hok]
      refine Wk.if_f (q := 54) d29_51 rfl (by decide) ?_
      refine Wk.iload_n (q := 55) d29_54 rfl rfl ?_
      refine Wk.iconst (q := 56) (1) d29_55 rfl (by decide) ?_
      refine Wk.iadd (q := 57) d29_56 rfl ?_
      rw [n32_succ]
      refine Wk.ireturn (t := .int) d29_57 rfl (by simp) (by rfl) ?_
      exact ⟨_, rfl, by rw [hst], rfl⟩
    · have hst : st xs n i = none := by rw [st, if_neg hno, if_neg (by rw [getD_get h1]; exact hok)]
      rw [if_neg hok]
      refine Wk.if_t (q := 58) d29_51 (by decide) (by decide) (by decide) ?_
      refine Wk.iload_n (q := 59) d29_58 rfl rfl ?_
      refine Wk.ineg (q := 60) d29_59 rfl ?_
      refine Wk.iconst (q := 61) (1) d29_60 rfl (by decide) ?_
      refine Wk.isub (q := 62) d29_61 rfl ?_
      refine Wk.ireturn (t := .int) d29_62 rfl (by simp) (by rfl) ?_
      exact ⟨_, rfl, by rw [hst], rfl⟩
  refine Ct.of (a0 := a0) (Ls := [.val (.ref _), .val (.int _), .val (.int _), .unset]) (plainFor_of_name pn_5) (fun m => ef_rii_4 m _ _ _) hE ?_
  refine Wk.aload_n (q := 1) d29_0 rfl rfl (by first | rfl | assumption) ?_
  refine Wk.iload_n (q := 2) d29_1 rfl rfl ?_
  refine Wk.caload (q := 3) (i) d29_2 rfl (by repeat (first | exact List.mem_cons_self | assumption | refine List.mem_cons_of_mem _ ?_)) (n32_nn (by omega)) (n32_nat (by omega)) (show (xs.map Value.int)[i]? = some (.int xs[i]) by simp [h1]) ?_
  refine Wk.istore_n (q := 4) d29_3 rfl (LS1.there (LS1.there (LS1.there (LS1.here (by first | exact One.u | exact One.val rfl | assumption))))) ?_
  refine Wk.iload_n (q := 5) d29_4 rfl rfl ?_
  refine Wk.ldc_int (q := 7) d29_5 rfl (hw _ (List.mem_of_getElem? (i := 104) rfl)) ?_
  refine Wk.icmp_s (q := 47) (q' := 10) d29_7 (by decide) (by decide) rfl ?_ ?_
  · intro (q : xs[i] < 55296)
    exact tail (fun z => z.1.1 q)
  intro (q1 : ¬ xs[i] < 55296)
  refine Wk.iload_n (q := 11) d29_10 rfl rfl ?_
  refine Wk.ldc_int (q := 13) d29_11 rfl (hw _ (List.mem_of_getElem? (i := 145) rfl)) ?_
  refine Wk.icmp_s (q := 47) (q' := 16) d29_13 (by decide) (by decide) rfl ?_ ?_
  · intro (q : 56319 < xs[i])
    exact tail (fun z => absurd q ((hi_alt _).mpr z.1.2))
  intro (q2 : ¬ 56319 < xs[i])
  have hh : Hi xs[i] := ⟨q1, (hi_alt _).mp q2⟩
  refine Wk.iload_n (q := 17) d29_16 rfl rfl ?_
  refine Wk.iconst (q := 18) (1) d29_17 rfl (by decide) ?_
  refine Wk.iadd (q := 19) d29_18 rfl ?_
  rw [n32_succ]
  refine Wk.iload_n (q := 20) d29_19 rfl rfl ?_
  by_cases h2 : i + 1 < n
  · have h3 : i + 1 < xs.length := by omega
    refine Wk.icmp_f (q := 23) d29_20 rfl (XT.ii_ge_f ((n32_lt (by omega) (by omega)).mpr h2)) ?_
    refine Wk.aload_n (q := 24) d29_23 rfl rfl (by first | rfl | assumption) ?_
    refine Wk.iload_n (q := 25) d29_24 rfl rfl ?_
    refine Wk.iconst (q := 26) (1) d29_25 rfl (by decide) ?_
    refine Wk.iadd (q := 27) d29_26 rfl ?_
    rw [n32_succ]
    refine Wk.caload (q := 28) ((i + 1)) d29_27 rfl (by repeat (first | exact List.mem_cons_self | assumption | refine List.mem_cons_of_mem _ ?_)) (n32_nn (by omega)) (n32_nat (by omega)) (show (xs.map Value.int)[i + 1]? = some (.int xs[i + 1]) by simp [h3]) ?_
    refine Wk.ldc_int (q := 30) d29_28 rfl (hw _ (List.mem_of_getElem? (i := 146) rfl)) ?_
    refine Wk.icmp_s (q := 47) (q' := 33) d29_30 (by decide) (by decide) rfl ?_ ?_
    · intro (q : xs[i + 1] < 56320)
      exact tail (fun z => z.2.2.1 q)
    intro (q3 : ¬ xs[i + 1] < 56320)
    refine Wk.aload_n (q := 34) d29_33 rfl rfl (by first | rfl | assumption) ?_
    refine Wk.iload_n (q := 35) d29_34 rfl rfl ?_
    refine Wk.iconst (q := 36) (1) d29_35 rfl (by decide) ?_
    refine Wk.iadd (q := 37) d29_36 rfl ?_
    rw [n32_succ]
    refine Wk.caload (q := 38) ((i + 1)) d29_37 rfl (by repeat (first | exact List.mem_cons_self | assumption | refine List.mem_cons_of_mem _ ?_)) (n32_nn (by omega)) (n32_nat (by omega)) (show (xs.map Value.int)[i + 1]? = some (.int xs[i + 1]) by simp [h3]) ?_
    refine Wk.ldc_int (q := 40) d29_38 rfl (hw _ (List.mem_of_getElem? (i := 152) rfl)) ?_
    refine Wk.icmp_s (q := 47) (q' := 43) d29_40 (by decide) (by decide) rfl ?_ ?_
    · intro (q : 57343 < xs[i + 1])
      exact tail (fun z => absurd q ((lo_alt _).mpr z.2.2.2))
    intro (q4 : ¬ 57343 < xs[i + 1])
    have hst : st xs n i = some (i + 2) := by rw [st, if_pos]; rw [getD_get h1, getD_get h3]; exact ⟨hh, h2, q3, (lo_alt _).mp q4⟩
    refine Wk.iload_n (q := 44) d29_43 rfl rfl ?_
    refine Wk.iconst (q := 45) (2) d29_44 rfl (by decide) ?_
    refine Wk.iadd (q := 46) d29_45 rfl ?_
    rw [show i.toInt32 + 2 = (i + 2).toInt32 from (Int32.ofNat_add i 2).symm]
    refine Wk.ireturn (t := .int) d29_46 rfl (by simp) (by rfl) ?_
    exact ⟨_, rfl, by rw [hst], rfl⟩
  · refine Wk.icmp_t (q := 47) d29_20 (by decide) (by decide) (XT.ii_ge_t (fun q => h2 ((n32_lt (by omega) (by omega)).mp q))) ?_
    exact tail (fun z => h2 z.2.1)
set_option maxHeartbeats 4000000 in
theorem ct_ref {l : Launch} {Z : State} {a0 : Array Value} (hw : ∀ d ∈ tables_1, d.before a0 Z = true) (hE : EW Z a0 EL0) {L : Store} {a : Addr} {fa : Bool} {xs : List Int32} (hx : xs.length < 100) {n : Nat} (hn : n ≤ xs.length) (ha : (a, fa, AR Z .char (xs.map .int)) ∈ L) :
    Ct l Z EL0 (⟨"com/example/soapwright/soapwright/envelope/XmlTextFirstUnwritablePinLaw", "ref", "([CI)I"⟩ : MethodName) method_6_code 4 (some .int) ({ frames := 2, cells := 0, slots := 0, locals := 27 } : Room) #[.ref a, .int n.toInt32] L (RV fun u M => u = .int (fu xs n 3 0) ∧ M = L) := by
  generalize hT : fu xs n 3 0 = T
  have b3 : ∀ (i : Nat) (o : Slot), One o → i < 1000 → fu xs n 1 i = T → Wk l Z a0 EL0 (⟨"com/example/soapwright/soapwright/envelope/XmlTextFirstUnwritablePinLaw", "ref", "([CI)I"⟩ : MethodName) method_6_code 4 (some .int) ({ frames := 2, cells := 0, slots := 0, locals := 27 } : Room) (RV fun u M => u = .int T ∧ M = L) L 0 0 48 [.val (.ref a), .val (.int n.toInt32), .val (.int i.toInt32), o] [] := by
    intro i o ho hi hf
    refine Wk.iload_n (q := 49) d30_48 rfl rfl ?_
    refine Wk.iload_n (q := 50) d30_49 rfl rfl ?_
    by_cases h : i < n
    · refine Wk.icmp_f (q := 53) d30_50 rfl (XT.ii_ge_f ((n32_lt (by omega) (by omega)).mpr h)) ?_
      refine Wk.aload_n (q := 54) d30_53 rfl rfl (by first | rfl | assumption) ?_
      refine Wk.iload_n (q := 55) d30_54 rfl rfl ?_
      refine Wk.iload_n (q := 56) d30_55 rfl rfl ?_
      refine Wk.static (q := 59) [_, _, _] _ 0 d30_56 rfl (hw _ (List.mem_of_getElem? (i := 101) rfl)) (hw _ (List.mem_of_getElem? (i := 102) rfl)) (hw _ (List.mem_of_getElem? (i := 3) rfl)) (hw _ (List.mem_of_getElem? (i := 103) rfl)) ar_20 (by decide) rfl rfl rfl rfl (ct_step hw hE (by omega) h hn ha) (by first | decide | (dsimp only; omega) | omega) (by first | decide | (dsimp only; omega) | omega) (by first | decide | (dsimp only; omega) | omega) (by first | decide | (dsimp only; omega) | omega) (kv ?_)
      rintro _ _ ⟨rfl, rfl⟩
      rw [fu, if_pos h] at hf
      cases hs : st xs n i with
      | some j =>
        rw [hs] at hf
        have hj := st_gt hs
        refine Wk.istore_n (q := 60) d30_59 rfl (LS1.there (LS1.there (LS1.there (LS1.here (by first | exact One.u | exact One.val rfl | assumption))))) ?_
        refine Wk.iload_n (q := 61) d30_60 rfl rfl ?_
        refine Wk.if_t (q := 69) d30_61 (by decide) (by decide) (XT.i0_ge_t (n32_nn (by omega))) ?_
        refine Wk.iload_n (q := 70) d30_69 rfl rfl ?_
        refine Wk.istore_n (q := 71) d30_70 rfl (LS1.there (LS1.there (LS1.here (by first | exact One.u | exact One.val rfl | assumption)))) ?_
        refine Wk.iconst (q := 72) ((-1)) d30_71 rfl (by decide) ?_
        refine Wk.ireturn (t := .int) d30_72 rfl (by simp) (by rfl) ?_
        exact ⟨_, rfl, by rw [← hf]; rfl, rfl⟩
      | none =>
        rw [hs] at hf
        refine Wk.istore_n (q := 60) d30_59 rfl (LS1.there (LS1.there (LS1.there (LS1.here (by first | exact One.u | exact One.val rfl | assumption))))) ?_
        refine Wk.iload_n (q := 61) d30_60 rfl rfl ?_
        refine Wk.if_f (q := 64) d30_61 rfl (XT.i0_ge_f (neg_lt (by omega))) ?_
        refine Wk.iload_n (q := 65) d30_64 rfl rfl ?_
        refine Wk.ineg (q := 66) d30_65 rfl ?_
        refine Wk.iconst (q := 67) (1) d30_66 rfl (by decide) ?_
        refine Wk.isub (q := 68) d30_67 rfl ?_
        rw [neg_back]
        refine Wk.ireturn (t := .int) d30_68 rfl (by simp) (by rfl) ?_
        exact ⟨_, rfl, by rw [← hf], rfl⟩
    · rw [fu, if_neg h] at hf
      refine Wk.icmp_t (q := 71) d30_50 (by decide) (by decide) (XT.ii_ge_t (fun q => h ((n32_lt (by omega) (by omega)).mp q))) ?_
      refine Wk.iconst (q := 72) ((-1)) d30_71 rfl (by decide) ?_
      refine Wk.ireturn (t := .int) d30_72 rfl (by simp) (by rfl) ?_
      exact ⟨_, rfl, by rw [← hf], rfl⟩
  have b2 : ∀ (i : Nat) (o : Slot), One o → i < 900 → fu xs n 2 i = T → Wk l Z a0 EL0 (⟨"com/example/soapwright/soapwright/envelope/XmlTextFirstUnwritablePinLaw", "ref", "([CI)I"⟩ : MethodName) method_6_code 4 (some .int) ({ frames := 2, cells := 0, slots := 0, locals := 27 } : Room) (RV fun u M => u = .int T ∧ M = L) L 0 0 25 [.val (.ref a), .val (.int n.toInt32), .val (.int i.toInt32), o] [] := by
    intro i o ho hi hf
    refine Wk.iload_n (q := 26) d30_25 rfl rfl ?_
    refine Wk.iload_n (q := 27) d30_26 rfl rfl ?_
    by_cases h : i < n
    · refine Wk.icmp_f (q := 30) d30_27 rfl (XT.ii_ge_f ((n32_lt (by omega) (by omega)).mpr h)) ?_
      refine Wk.aload_n (q := 31) d30_30 rfl rfl (by first | rfl | assumption) ?_
      refine Wk.iload_n (q := 32) d30_31 rfl rfl ?_
      refine Wk.iload_n (q := 33) d30_32 rfl rfl ?_
      refine Wk.static (q := 36) [_, _, _] _ 0 d30_33 rfl (hw _ (List.mem_of_getElem? (i := 101) rfl)) (hw _ (List.mem_of_getElem? (i := 102) rfl)) (hw _ (List.mem_of_getElem? (i := 3) rfl)) (hw _ (List.mem_of_getElem? (i := 103) rfl)) ar_20 (by decide) rfl rfl rfl rfl (ct_step hw hE (by omega) h hn ha) (by first | decide | (dsimp only; omega) | omega) (by first | decide | (dsimp only; omega) | omega) (by first | decide | (dsimp only; omega) | omega) (by first | decide | (dsimp only; omega) | omega) (kv ?_)
      rintro _ _ ⟨rfl, rfl⟩
      rw [fu, if_pos h] at hf
      cases hs : st xs n i with
      | some j =>
        rw [hs] at hf
        have hj := st_gt hs
        refine Wk.istore_n (q := 37) d30_36 rfl (LS1.there (LS1.there (LS1.there (LS1.here (by first | exact One.u | exact One.val rfl | assumption))))) ?_
        refine Wk.iload_n (q := 38) d30_37 rfl rfl ?_
        refine Wk.if_t (q := 46) d30_38 (by decide) (by decide) (XT.i0_ge_t (n32_nn (by omega))) ?_
        refine Wk.iload_n (q := 47) d30_46 rfl rfl ?_
        refine Wk.istore_n (q := 48) d30_47 rfl (LS1.there (LS1.there (LS1.here (by first | exact One.u | exact One.val rfl | assumption)))) ?_
        exact b3 j _ (One.val rfl) (by omega) hf
      | none =>
        rw [hs] at hf
        refine Wk.istore_n (q := 37) d30_36 rfl (LS1.there (LS1.there (LS1.there (LS1.here (by first | exact One.u | exact One.val rfl | assumption))))) ?_
        refine Wk.iload_n (q := 38) d30_37 rfl rfl ?_
        refine Wk.if_f (q := 41) d30_38 rfl (XT.i0_ge_f (neg_lt (by omega))) ?_
        refine Wk.iload_n (q := 42) d30_41 rfl rfl ?_
        refine Wk.ineg (q := 43) d30_42 rfl ?_
        refine Wk.iconst (q := 44) (1) d30_43 rfl (by decide) ?_
        refine Wk.isub (q := 45) d30_44 rfl ?_
        rw [neg_back]
        refine Wk.ireturn (t := .int) d30_45 rfl (by simp) (by rfl) ?_
        exact ⟨_, rfl, by rw [← hf], rfl⟩
    · rw [fu, if_neg h] at hf
      refine Wk.icmp_t (q := 48) d30_27 (by decide) (by decide) (XT.ii_ge_t (fun q => h ((n32_lt (by omega) (by omega)).mp q))) ?_
      exact b3 i _ ho (by omega) (by rw [fu, if_neg h]; exact hf)
  refine Ct.of (a0 := a0) (Ls := [.val (.ref _), .val (.int _), .unset, .unset]) (plainFor_of_name pn_5) (fun m => ef_ri_4 m _ _) hE ?_
  refine Wk.iconst (q := 1) (0) d30_0 rfl (by decide) ?_
  refine Wk.istore_n (q := 2) d30_1 rfl (LS1.there (LS1.there (LS1.here (by first | exact One.u | exact One.val rfl | assumption)))) ?_
  refine Wk.iload_n (q := 3) d30_2 rfl rfl ?_
  refine Wk.iload_n (q := 4) d30_3 rfl rfl ?_
  by_cases h : 0 < n
  · refine Wk.icmp_f (q := 7) d30_4 rfl (XT.ii_ge_f ((n32_lt (show 0 < 2 ^ 31 by decide) (by omega)).mpr h)) ?_
    refine Wk.aload_n (q := 8) d30_7 rfl rfl (by first | rfl | assumption) ?_
    refine Wk.iload_n (q := 9) d30_8 rfl rfl ?_
    refine Wk.iload_n (q := 10) d30_9 rfl rfl ?_
    refine Wk.static (q := 13) [_, _, _] _ 0 d30_10 rfl (hw _ (List.mem_of_getElem? (i := 101) rfl)) (hw _ (List.mem_of_getElem? (i := 102) rfl)) (hw _ (List.mem_of_getElem? (i := 3) rfl)) (hw _ (List.mem_of_getElem? (i := 103) rfl)) ar_20 (by decide) rfl rfl rfl rfl (ct_step hw hE (by omega) h hn ha) (by first | decide | (dsimp only; omega) | omega) (by first | decide | (dsimp only; omega) | omega) (by first | decide | (dsimp only; omega) | omega) (by first | decide | (dsimp only; omega) | omega) (kv ?_)
    rintro _ _ ⟨rfl, rfl⟩
    rw [fu, if_pos h] at hT
    cases hs : st xs n 0 with
    | some j =>
      rw [hs] at hT
      have hj := st_gt hs
      refine Wk.istore_n (q := 14) d30_13 rfl (LS1.there (LS1.there (LS1.there (LS1.here (by first | exact One.u | exact One.val rfl | assumption))))) ?_
      refine Wk.iload_n (q := 15) d30_14 rfl rfl ?_
      refine Wk.if_t (q := 23) d30_15 (by decide) (by decide) (XT.i0_ge_t (n32_nn (by omega))) ?_
      refine Wk.iload_n (q := 24) d30_23 rfl rfl ?_
      refine Wk.istore_n (q := 25) d30_24 rfl (LS1.there (LS1.there (LS1.here (by first | exact One.u | exact One.val rfl | assumption)))) ?_
      exact b2 j _ (One.val rfl) (by omega) hT
    | none =>
      rw [hs] at hT
      refine Wk.istore_n (q := 14) d30_13 rfl (LS1.there (LS1.there (LS1.there (LS1.here (by first | exact One.u | exact One.val rfl | assumption))))) ?_
      refine Wk.iload_n (q := 15) d30_14 rfl rfl ?_
      refine Wk.if_f (q := 18) d30_15 rfl (XT.i0_ge_f (neg_lt (i := 0) (by decide))) ?_
      refine Wk.iload_n (q := 19) d30_18 rfl rfl ?_
      refine Wk.ineg (q := 20) d30_19 rfl ?_
      refine Wk.iconst (q := 21) (1) d30_20 rfl (by decide) ?_
      refine Wk.isub (q := 22) d30_21 rfl ?_
      rw [neg_back]
      refine Wk.ireturn (t := .int) d30_22 rfl (by simp) (by rfl) ?_
      exact ⟨_, rfl, by rw [← hT], rfl⟩
  · rw [fu, if_neg h] at hT
    refine Wk.icmp_t (q := 25) d30_4 (by decide) (by decide) (XT.ii_ge_t (fun q => h ((n32_lt (show 0 < 2 ^ 31 by decide) (by omega)).mp q))) ?_
    exact b2 0 _ One.u (by omega) (by rw [fu, if_neg h]; exact hT)
set_option maxRecDepth 65536 in
set_option maxHeartbeats 4000000 in
theorem ct_law {l : Launch} {Z : State} {a0 : Array Value} (hw : ∀ d ∈ tables_1, d.before a0 Z = true) (hE : EW Z a0 EL0) (F : ∃ z, z ≠ (0 : Int32) ∧ Sta Z Z.heap "java/lang/String" "COMPACT_STRINGS" "Z" (.int z)) (hU : FU Z) (hO : FO Z) (i0 i1 i2 i3 : Int32) :
    Ct l Z EL0 x code 11 (some .boolean) room_1 #[.int i0, .int i1, .int i2, .int i3] [] (RV fun u M => u = .int 1) := by
  have join : ∀ (n : Nat) (c0 c1 c2 : Int32) (A S : Addr), n ≤ 3 → Chars [c0, c1, c2] → Wk l Z a0 EL0 x code 11 (some .boolean) room_1 (RV fun u M => u = .int 1) [(S, true, AR Z .char (([c0, c1, c2].take n).map .int)), (A, true, AR Z .char ([c0, c1, c2].map .int))] 12 60 122 [.val (.int i0), .val (.int i1), .val (.int i2), .val (.int i3), .val (.int n.toInt32), .val (.int c0), .val (.int c1), .val (.int c2), .val (.ref A), .val (.ref S), .unset] [] := by
    intro n c0 c1 c2 A S hn hc
    have hc' : Chars ([c0, c1, c2].take n) := fun x hx => hc x (List.mem_of_mem_take hx)
    have hlen : ([c0, c1, c2].take n).length = n := by simp; omega
    refine Wk.new (q := 125) at_122 rfl (hw _ (List.mem_of_getElem? (i := 7) rfl)) (hw _ (List.mem_of_getElem? (i := 8) rfl)) (hw _ (List.mem_of_getElem? (i := 9) rfl)) (layS_ok hw) layS_dv (by first | decide | (dsimp only; omega) | omega) (by first | decide | (dsimp only; omega) | omega) ?_
    intro s
    refine Wk.dup (q := 126) at_125 rfl rfl ?_
    refine Wk.aload (q := 128) at_126 rfl rfl (by first | rfl | assumption) ?_
    refine Wk.special (q := 131) [_] _ 1 at_128 rfl rfl (hw _ (List.mem_of_getElem? (i := 10) rfl)) (hw _ (List.mem_of_getElem? (i := 11) rfl)) (hw _ (List.mem_of_getElem? (i := 9) rfl)) (hw _ (List.mem_of_getElem? (i := 12) rfl)) ar_21 (by decide) rfl rfl rfl rfl (ct_strInitA hw hE F hU hc' 9 (by rw [hlen]; omega) (by rw [hlen]; omega) (by repeat (first | exact List.mem_cons_self | assumption | refine List.mem_cons_of_mem _ ?_))) (by first | decide | (dsimp only; omega) | omega) (by first | decide | (dsimp only; omega) | omega) (by first | decide | (dsimp only; omega) | omega) (by first | decide | (dsimp only; omega) | omega) (k0 ?_)
    rintro _ ⟨b, fb, k, hk, rfl⟩
    refine Wk.astore (q := 133) at_131 rfl (by first | rfl | assumption) (LS1.there (LS1.there (LS1.there (LS1.there (LS1.there (LS1.there (LS1.there (LS1.there (LS1.there (LS1.there (LS1.here (by first | exact One.u | exact One.val rfl | assumption)))))))))))) ?_
    refine Wk.aload (q := 135) at_133 rfl rfl (by first | rfl | assumption) ?_
    refine Wk.static (q := 138) [_] _ 0 at_135 rfl (hw _ (List.mem_of_getElem? (i := 28) rfl)) (hw _ (List.mem_of_getElem? (i := 29) rfl)) (hw _ (List.mem_of_getElem? (i := 30) rfl)) (hw _ (List.mem_of_getElem? (i := 31) rfl)) ar_22 (by decide) rfl rfl rfl rfl (ct_fstU hw hE F hU hO hc' hk (by rw [hlen]; omega) (by repeat (first | exact List.mem_cons_self | assumption | refine List.mem_cons_of_mem _ ?_)) (by repeat (first | exact List.mem_cons_self | assumption | refine List.mem_cons_of_mem _ ?_))) (by first | decide | (dsimp only; omega) | omega) (by first | decide | (dsimp only; omega) | omega) (by first | decide | (dsimp only; omega) | omega) (by first | decide | (dsimp only; omega) | omega) (kv ?_)
    rintro _ _ ⟨rfl, rfl⟩
    refine Wk.aload (q := 140) at_138 rfl rfl (by first | rfl | assumption) ?_
    refine Wk.iload (q := 142) at_140 rfl rfl ?_
    refine Wk.static (q := 145) [_, _] _ 1 at_142 rfl (hw _ (List.mem_of_getElem? (i := 47) rfl)) (hw _ (List.mem_of_getElem? (i := 48) rfl)) (hw _ (List.mem_of_getElem? (i := 3) rfl)) (hw _ (List.mem_of_getElem? (i := 49) rfl)) ar_23 (by decide) rfl rfl rfl rfl (ct_ref hw hE (xs := [c0, c1, c2]) (by simp) (show n ≤ 3 from hn) (by repeat (first | exact List.mem_cons_self | assumption | refine List.mem_cons_of_mem _ ?_))) (by first | decide | (dsimp only; omega) | omega) (by first | decide | (dsimp only; omega) | omega) (by first | decide | (dsimp only; omega) | omega) (by first | decide | (dsimp only; omega) | omega) (kv ?_)
    rintro _ _ ⟨rfl, rfl⟩
    have e : fu ([c0, c1, c2].take n) ([c0, c1, c2].take n).length (([c0, c1, c2].take n).length + 1) 0 = fu [c0, c1, c2] n 3 0 := by
      rw [hlen, fu_take]
      exact fu_fuel _ _ _ _ _ (by omega) (by omega)
    refine Wk.icmp_f (q := 148) at_145 rfl (XT.ii_ne_f e) ?_
    refine Wk.iconst (q := 149) (1) at_148 rfl (by decide) ?_
    refine Wk.goto (q := 153) at_149 (by decide) (by decide) ?_
    refine Wk.ireturn (t := .boolean) at_153 rfl (by simp) (by rfl) ?_
    exact ⟨_, rfl, rfl⟩
  refine Ct.of (a0 := a0) (Ls := [.val (.int _), .val (.int _), .val (.int _), .val (.int _), .unset, .unset, .unset, .unset, .unset, .unset, .unset]) (plainFor_of_name pn_5) (fun m => ef_iiii_11 m _ _ _ _) hE ?_
  refine Wk.iload_n (q := 1) at_0 rfl rfl ?_
  refine Wk.ldc_int (q := 3) at_1 rfl (hw _ (List.mem_of_getElem? (i := 0) rfl)) ?_
  refine Wk.iand (q := 4) at_3 rfl ?_
  refine Wk.iconst (q := 5) (4) at_4 rfl (by decide) ?_
  refine Wk.irem (q := 6) at_5 rfl (by decide) ?_
  have hn4 := rem4 i0
  generalize (i0 &&& 2147483647) % 4 = n at *
  refine Wk.istore (q := 8) at_6 rfl (LS1.there (LS1.there (LS1.there (LS1.there (LS1.here (by first | exact One.u | exact One.val rfl | assumption)))))) ?_
  refine Wk.iload_n (q := 9) at_8 rfl rfl ?_
  refine Wk.static (q := 12) [_] _ 0 at_9 rfl (hw _ (List.mem_of_getElem? (i := 1) rfl)) (hw _ (List.mem_of_getElem? (i := 2) rfl)) (hw _ (List.mem_of_getElem? (i := 3) rfl)) (hw _ (List.mem_of_getElem? (i := 4) rfl)) ar_14 (by decide) rfl rfl rfl rfl (ct_draw hw hE) (by first | decide | (dsimp only; omega) | omega) (by first | decide | (dsimp only; omega) | omega) (by first | decide | (dsimp only; omega) | omega) (by first | decide | (dsimp only; omega) | omega) (kv ?_)
  rintro _ _ ⟨⟨c0, rfl, h0⟩, rfl⟩
  refine Wk.istore (q := 14) at_12 rfl (LS1.there (LS1.there (LS1.there (LS1.there (LS1.there (LS1.here (by first | exact One.u | exact One.val rfl | assumption))))))) ?_
  refine Wk.iload_n (q := 15) at_14 rfl rfl ?_
  refine Wk.static (q := 18) [_] _ 0 at_15 rfl (hw _ (List.mem_of_getElem? (i := 1) rfl)) (hw _ (List.mem_of_getElem? (i := 2) rfl)) (hw _ (List.mem_of_getElem? (i := 3) rfl)) (hw _ (List.mem_of_getElem? (i := 4) rfl)) ar_14 (by decide) rfl rfl rfl rfl (ct_draw hw hE) (by first | decide | (dsimp only; omega) | omega) (by first | decide | (dsimp only; omega) | omega) (by first | decide | (dsimp only; omega) | omega) (by first | decide | (dsimp only; omega) | omega) (kv ?_)
  rintro _ _ ⟨⟨c1, rfl, h1⟩, rfl⟩
  refine Wk.istore (q := 20) at_18 rfl (LS1.there (LS1.there (LS1.there (LS1.there (LS1.there (LS1.there (LS1.here (by first | exact One.u | exact One.val rfl | assumption)))))))) ?_
  refine Wk.iload_n (q := 21) at_20 rfl rfl ?_
  refine Wk.static (q := 24) [_] _ 0 at_21 rfl (hw _ (List.mem_of_getElem? (i := 1) rfl)) (hw _ (List.mem_of_getElem? (i := 2) rfl)) (hw _ (List.mem_of_getElem? (i := 3) rfl)) (hw _ (List.mem_of_getElem? (i := 4) rfl)) ar_14 (by decide) rfl rfl rfl rfl (ct_draw hw hE) (by first | decide | (dsimp only; omega) | omega) (by first | decide | (dsimp only; omega) | omega) (by first | decide | (dsimp only; omega) | omega) (by first | decide | (dsimp only; omega) | omega) (kv ?_)
  rintro _ _ ⟨⟨c2, rfl, h2⟩, rfl⟩
  have hc : Chars [c0, c1, c2] := chs_cons h0 (chs_cons h1 (chs_cons h2 chs_nil))
  refine Wk.istore (q := 26) at_24 rfl (LS1.there (LS1.there (LS1.there (LS1.there (LS1.there (LS1.there (LS1.there (LS1.here (by first | exact One.u | exact One.val rfl | assumption))))))))) ?_
  refine Wk.iconst (q := 27) (3) at_26 rfl (by decide) ?_
  refine Wk.newarray (q := 29) .char (3) [(.int 0), (.int 0), (.int 0)] at_27 rfl rfl rfl (hw _ (List.mem_of_getElem? (i := 6) rfl)) (by decide) (by decide) (by decide) (by first | decide | (dsimp only; omega) | omega) (by first | decide | (dsimp only; omega) | omega) ?_
  intro A
  refine Wk.dup (q := 30) at_29 rfl rfl ?_
  refine Wk.iconst (q := 31) (0) at_30 rfl (by decide) ?_
  refine Wk.iload (q := 33) at_31 rfl rfl ?_
  refine Wk.castore (q := 34) (0) at_33 rfl (by repeat (first | exact Ex.here | assumption | apply Ex.there)) (by decide) (by decide) (nchar16 h0) (VS.here) ?_
  refine Wk.dup (q := 35) at_34 rfl rfl ?_
  refine Wk.iconst (q := 36) (1) at_35 rfl (by decide) ?_
  refine Wk.iload (q := 38) at_36 rfl rfl ?_
  refine Wk.castore (q := 39) (1) at_38 rfl (by repeat (first | exact Ex.here | assumption | apply Ex.there)) (by decide) (by decide) (nchar16 h1) (VS.there (VS.here)) ?_
  refine Wk.dup (q := 40) at_39 rfl rfl ?_
  refine Wk.iconst (q := 41) (2) at_40 rfl (by decide) ?_
  refine Wk.iload (q := 43) at_41 rfl rfl ?_
  refine Wk.castore (q := 44) (2) at_43 rfl (by repeat (first | exact Ex.here | assumption | apply Ex.there)) (by decide) (by decide) (nchar16 h2) (VS.there (VS.there (VS.here))) ?_
  refine Wk.astore (q := 46) at_44 rfl (by first | rfl | assumption) (LS1.there (LS1.there (LS1.there (LS1.there (LS1.there (LS1.there (LS1.there (LS1.there (LS1.here (by first | exact One.u | exact One.val rfl | assumption)))))))))) ?_
  refine Wk.iload (q := 48) at_46 rfl rfl ?_
  rcases hn4 with rfl | rfl | rfl | rfl
  · refine Wk.if_f (q := 51) at_48 rfl (by decide) ?_
    refine Wk.iconst (q := 52) (0) at_51 rfl (by decide) ?_
    refine Wk.newarray (q := 54) .char (0) [] at_52 rfl rfl rfl (hw _ (List.mem_of_getElem? (i := 6) rfl)) (by decide) (by decide) (by decide) (by first | decide | (dsimp only; omega) | omega) (by first | decide | (dsimp only; omega) | omega) ?_
    intro S
    refine Wk.astore (q := 56) at_54 rfl (by first | rfl | assumption) (LS1.there (LS1.there (LS1.there (LS1.there (LS1.there (LS1.there (LS1.there (LS1.there (LS1.there (LS1.here (by first | exact One.u | exact One.val rfl | assumption))))))))))) ?_
    refine Wk.goto (q := 122) at_56 (by decide) (by decide) ?_
    exact (join 0 c0 c1 c2 A S (by decide) hc).mono (by decide) (by decide)
  · refine Wk.if_t (q := 59) at_48 (by decide) (by decide) (by decide) ?_
    refine Wk.iload (q := 61) at_59 rfl rfl ?_
    refine Wk.iconst (q := 62) (1) at_61 rfl (by decide) ?_
    refine Wk.icmp_f (q := 65) at_62 rfl (by decide) ?_
    refine Wk.iconst (q := 66) (1) at_65 rfl (by decide) ?_
    refine Wk.newarray (q := 68) .char (1) [(.int 0)] at_66 rfl rfl rfl (hw _ (List.mem_of_getElem? (i := 6) rfl)) (by decide) (by decide) (by decide) (by first | decide | (dsimp only; omega) | omega) (by first | decide | (dsimp only; omega) | omega) ?_
    intro S
    refine Wk.dup (q := 69) at_68 rfl rfl ?_
    refine Wk.iconst (q := 70) (0) at_69 rfl (by decide) ?_
    refine Wk.iload (q := 72) at_70 rfl rfl ?_
    refine Wk.castore (q := 73) (0) at_72 rfl (by repeat (first | exact Ex.here | assumption | apply Ex.there)) (by decide) (by decide) (nchar16 h0) (VS.here) ?_
    refine Wk.astore (q := 75) at_73 rfl (by first | rfl | assumption) (LS1.there (LS1.there (LS1.there (LS1.there (LS1.there (LS1.there (LS1.there (LS1.there (LS1.there (LS1.here (by first | exact One.u | exact One.val rfl | assumption))))))))))) ?_
    refine Wk.goto (q := 122) at_75 (by decide) (by decide) ?_
    exact (join 1 c0 c1 c2 A S (by decide) hc).mono (by decide) (by decide)
  · refine Wk.if_t (q := 59) at_48 (by decide) (by decide) (by decide) ?_
    refine Wk.iload (q := 61) at_59 rfl rfl ?_
    refine Wk.iconst (q := 62) (1) at_61 rfl (by decide) ?_
    refine Wk.icmp_t (q := 78) at_62 (by decide) (by decide) (by decide) ?_
    refine Wk.iload (q := 80) at_78 rfl rfl ?_
    refine Wk.iconst (q := 81) (2) at_80 rfl (by decide) ?_
    refine Wk.icmp_f (q := 84) at_81 rfl (by decide) ?_
    refine Wk.iconst (q := 85) (2) at_84 rfl (by decide) ?_
    refine Wk.newarray (q := 87) .char (2) [(.int 0), (.int 0)] at_85 rfl rfl rfl (hw _ (List.mem_of_getElem? (i := 6) rfl)) (by decide) (by decide) (by decide) (by first | decide | (dsimp only; omega) | omega) (by first | decide | (dsimp only; omega) | omega) ?_
    intro S
    refine Wk.dup (q := 88) at_87 rfl rfl ?_
    refine Wk.iconst (q := 89) (0) at_88 rfl (by decide) ?_
    refine Wk.iload (q := 91) at_89 rfl rfl ?_
    refine Wk.castore (q := 92) (0) at_91 rfl (by repeat (first | exact Ex.here | assumption | apply Ex.there)) (by decide) (by decide) (nchar16 h0) (VS.here) ?_
    refine Wk.dup (q := 93) at_92 rfl rfl ?_
    refine Wk.iconst (q := 94) (1) at_93 rfl (by decide) ?_
    refine Wk.iload (q := 96) at_94 rfl rfl ?_
    refine Wk.castore (q := 97) (1) at_96 rfl (by repeat (first | exact Ex.here | assumption | apply Ex.there)) (by decide) (by decide) (nchar16 h1) (VS.there (VS.here)) ?_
    refine Wk.astore (q := 99) at_97 rfl (by first | rfl | assumption) (LS1.there (LS1.there (LS1.there (LS1.there (LS1.there (LS1.there (LS1.there (LS1.there (LS1.there (LS1.here (by first | exact One.u | exact One.val rfl | assumption))))))))))) ?_
    refine Wk.goto (q := 122) at_99 (by decide) (by decide) ?_
    exact (join 2 c0 c1 c2 A S (by decide) hc).mono (by decide) (by decide)
  · refine Wk.if_t (q := 59) at_48 (by decide) (by decide) (by decide) ?_
    refine Wk.iload (q := 61) at_59 rfl rfl ?_
    refine Wk.iconst (q := 62) (1) at_61 rfl (by decide) ?_
    refine Wk.icmp_t (q := 78) at_62 (by decide) (by decide) (by decide) ?_
    refine Wk.iload (q := 80) at_78 rfl rfl ?_
    refine Wk.iconst (q := 81) (2) at_80 rfl (by decide) ?_
    refine Wk.icmp_t (q := 102) at_81 (by decide) (by decide) (by decide) ?_
    refine Wk.iconst (q := 103) (3) at_102 rfl (by decide) ?_
    refine Wk.newarray (q := 105) .char (3) [(.int 0), (.int 0), (.int 0)] at_103 rfl rfl rfl (hw _ (List.mem_of_getElem? (i := 6) rfl)) (by decide) (by decide) (by decide) (by first | decide | (dsimp only; omega) | omega) (by first | decide | (dsimp only; omega) | omega) ?_
    intro S
    refine Wk.dup (q := 106) at_105 rfl rfl ?_
    refine Wk.iconst (q := 107) (0) at_106 rfl (by decide) ?_
    refine Wk.iload (q := 109) at_107 rfl rfl ?_
    refine Wk.castore (q := 110) (0) at_109 rfl (by repeat (first | exact Ex.here | assumption | apply Ex.there)) (by decide) (by decide) (nchar16 h0) (VS.here) ?_
    refine Wk.dup (q := 111) at_110 rfl rfl ?_
    refine Wk.iconst (q := 112) (1) at_111 rfl (by decide) ?_
    refine Wk.iload (q := 114) at_112 rfl rfl ?_
    refine Wk.castore (q := 115) (1) at_114 rfl (by repeat (first | exact Ex.here | assumption | apply Ex.there)) (by decide) (by decide) (nchar16 h1) (VS.there (VS.here)) ?_
    refine Wk.dup (q := 116) at_115 rfl rfl ?_
    refine Wk.iconst (q := 117) (2) at_116 rfl (by decide) ?_
    refine Wk.iload (q := 119) at_117 rfl rfl ?_
    refine Wk.castore (q := 120) (2) at_119 rfl (by repeat (first | exact Ex.here | assumption | apply Ex.there)) (by decide) (by decide) (nchar16 h2) (VS.there (VS.there (VS.here))) ?_
    refine Wk.astore (q := 122) at_120 rfl (by first | rfl | assumption) (LS1.there (LS1.there (LS1.there (LS1.there (LS1.there (LS1.there (LS1.there (LS1.there (LS1.there (LS1.here (by first | exact One.u | exact One.val rfl | assumption))))))))))) ?_
    exact (join 3 c0 c1 c2 A S (by decide) hc).mono (by decide) (by decide)
set_option maxRecDepth 65536 in
set_option maxHeartbeats 4000000 in
theorem comes_1 {Post : Tables → Env → Array Value → State → Outcome → State → Prop} (hpost : ∀ tb e args s v u, (limb_1_1.after args s (.returned v) u = true ∧ limb_1_2.after args s (.returned v) u = true) → ReturnedEndW s (.returned v) u (Jvm.fieldLocs frame_1_writes args s ++ Jvm.arrayLocs frame_1_arrays args s ++ Jvm.staticLocs frame_1_statics s) 24 1152 → Post tb e args s (.returned v) u) :
    ArmFor flags0 classFile x code maxLocals ret World_1 tables_1 room_1 Calls_1 rest_1 Pre_1 Post := by
  intro l hfl _ _ p e ha hc hk s m args below hf hA hF happ hP
  obtain ⟨hcalls, hrest, hpre⟩ := hP
  obtain ⟨-, -, -, hnamed, -, -, -, hat⟩ := (Spec.applies_iff hf).mp happ
  obtain ⟨hg, hn⟩ := and_e (Cond.before_iff.mp (show (Jvm.Cond.and given_1 narrow_1).before args s = true from hpre))
  obtain ⟨g_n, gr⟩ := and_e hg
  obtain ⟨g0, gr⟩ := and_e gr
  obtain ⟨g1, gr⟩ := and_e gr
  obtain ⟨g2, gr⟩ := and_e gr
  have g3 := gr
  obtain ⟨w0, w1, w2, w3, rfl⟩ : ∃ w0 w1 w2 w3 : Value, args = #[w0, w1, w2, w3] := by
    have hs : args.size = 4 := by simpa [Cond.value, given_1] using g_n
    obtain ⟨L⟩ := args
    match L, hs with
    | [w0, w1, w2, w3], _ => exact ⟨w0, w1, w2, w3, rfl⟩
  obtain ⟨i0, ei0⟩ := is_v g0
  obtain rfl : w0 = (.int i0) := Option.some.inj ei0
  obtain ⟨i1, ei1⟩ := is_v g1
  obtain rfl : w1 = (.int i1) := Option.some.inj ei1
  obtain ⟨i2, ei2⟩ := is_v g2
  obtain rfl : w2 = (.int i2) := Option.some.inj ei2
  obtain ⟨i3, ei3⟩ := is_v g3
  obtain rfl : w3 = (.int i3) := Option.some.inj ei3
  have hw := fun d (hd : d ∈ tables_1) => atoms_spec (ws := Jvm.Cond.code x code maxLocals ret :: tables_1) hat d (List.mem_cons_of_mem _ hd)
  obtain ⟨hsets, hown0⟩ := atoms_of _ (rest_1_c_eq ▸ (show rest_1_c.before _ s = true from hrest))
  have F := compact (hsets _ (List.mem_of_getElem? (i := 0) rfl)) (hsets _ (List.mem_of_getElem? (i := 1) rfl)) (hsets _ (List.mem_of_getElem? (i := 2) rfl))
  have hE : EW s _ EL0 := (EW.cons (hw _ (List.mem_of_getElem? (i := 20) rfl)) (by decide +kernel) EW.nil)
  have hheld : constsHeld consts_1 s := hcalls.1
  have hCH : CHv s EL0 s.vm s.heap := CHv.start hE (fun p hp => hheld p hp) (hsets _ (List.mem_of_getElem? (i := 2) rfl)) (hw _ (List.mem_of_getElem? (i := 21) rfl)) (hw _ (List.mem_of_getElem? (i := 8) rfl))
  have hI : Inv s EL0 s.vm s.heap [] := ⟨⟨Nat.le_refl _, fun _ _ q => q⟩, hCH, (fun o ho => nomatch ho), (fun o ho => nomatch ho), List.Pairwise.nil⟩
  have hU : FU s := FU_of (hsets _ (List.mem_of_getElem? (i := 11) rfl)) (hsets _ (List.mem_of_getElem? (i := 12) rfl)) (hsets _ (List.mem_of_getElem? (i := 14) rfl)) (hsets _ (List.mem_of_getElem? (i := 15) rfl)) (hsets _ (List.mem_of_getElem? (i := 17) rfl)) (hsets _ (List.mem_of_getElem? (i := 18) rfl))
  have hO : FO s := FO_of (hsets _ (List.mem_of_getElem? (i := 7) rfl)) (hsets _ (List.mem_of_getElem? (i := 8) rfl))
  obtain ⟨n, o, h1, h2, h3, v, Lc, L', rfl, ⟨u, rfl, rfl⟩, -, N, hq⟩ := ct_law hw hE F hU hO i0 i1 i2 i3 tables_1 p e ha hc hk s m _ below hf ((Spec.applies_iff_loose hf).mp happ).1 ⟨rfl, State.Warmed39.refl s, hI⟩ trivial
  exact ⟨n, _, h1, h2, h3, hpost _ _ _ _ _ _ ⟨Cond.after_iff.mpr rfl, Cond.after_iff.mpr (eq_i res_at (Term.int_eval (1)) rfl)⟩ ⟨hq.1, hq.2.1, hq.2.2.1, (hq.2.2.2.sift fun y hy => Or.inr (N y hy)).mono (by decide) (by decide)⟩⟩
theorem main_1_1 : Claimed_1_1 := comes_1 fun _ _ _ _ _ _ h hF => ⟨h.1, hF⟩
theorem main_1_2 : Claimed_1_2 := comes_1 fun _ _ _ _ _ _ h hF => ⟨h.2, hF⟩

end Jvm.Pilot.@@N@@
namespace Jvm.Pilot.@@N@@
open Jvm Jvm.ClassFile Sem Op Lib Jvm.Free Jvm.Stand Jvm.Pilot.@@N@@.Jvm.D
/-! MADE BY PROGRAM (witnessworld.py) out of the Statement's table words and the real class files: 21 classes; the members and pool entries that the words name. The judged class is class 1, her method 1. -/
namespace start1
open Jvm.ClassFile
def u (s : String) : CpInfo := .utf8 (stringToUtf16 s)
/-- a pool by its gaps: so many unusable entries, then the entry; so many at the end -/
def gap : Nat → List CpInfo → List CpInfo
  | 0, r => r
  | n + 1, r => .unusable :: gap n r
def poolList (es : List (Nat × CpInfo)) (last : Nat) : List CpInfo := es.foldr (fun e r => gap e.1 (e.2 :: r)) (gap last [])
def pool (es : List (Nat × CpInfo)) (last : Nat) : Array CpInfo := ⟨poolList es last⟩
def fileOf (pool : Array CpInfo) (this : Nat) (attrs : Array Attribute := #[]) (ms : Array MethodInfo := #[]) (fl : Nat := 33) (sup : Nat := 0) (ifs : Array Nat := #[]) (fds : Array FieldInfo := #[]) : ClassFile where
  minorVersion := 0
  majorVersion := 65
  constantPool := pool
  accessFlags := fl
  thisClass := this
  superClass := sup
  interfaces := ifs
  fields := fds
  methods := ms
  attributes := attrs
def plain (name : String) (sup : Option ClassId) : Class where
  name := name
  kind := .ordinary
  loader := none
  accessFlags := 33
  super := sup
  interfaces := #[]
  cf := none
  fields := #[]
  methods := #[]
  instanceTypes := #[]
  staticTypes := #[]
  resolved := #[]
  callSites := []
  init := .initialized
  statics := none
  mirror := none

def pool0 : Array CpInfo := pool [(5, u "<init>"), (0, u "()V"), (1, .class_ 10), (1, u "java/lang/Object")] 113

def k0c0 : Code := { maxStack := 0, maxLocals := 1, code := object_method_1_code, exceptionTable := #[], attributes := #[] }
def k0m0 : Method := { name := "<init>", desc := "()V", sig := { parameters := [], returnType := none }, accessFlags := 1, code := some k0c0 }
/-- java/lang/Object -/
def k0 : Class := { plain "java/lang/Object" none with
  accessFlags := 33
  interfaces := #[]
  cf := some (fileOf pool0 8 #[] #[{ accessFlags := 1, nameIndex := 5, descriptorIndex := 6, attributes := #[] }] 33 0 #[] #[])
  fields := #[]
  methods := #[k0m0]
  instanceTypes := #[]
  staticTypes := #[]
  resolved := Array.replicate 124 none
  statics := none }

def pool1 : Array CpInfo := pool [(2, .class_ 4), (1, u "java/lang/Object"), (0, u "<init>"), (0, u "()V"), (0, .integer 2147483647), (0, .methodref 9 10), (0, .class_ 11), (0, .nameAndType 12 13), (0, u "com/example/soapwright/soapwright/envelope/XmlTextFirstUnwritablePinLaw"), (0, u "draw"), (0, u "(I)C"), (0, .class_ 15), (0, u "java/lang/String"), (0, .methodref 14 17), (0, .nameAndType 5 18), (0, u "([C)V"), (0, .methodref 20 21), (0, .class_ 22), (0, .nameAndType 23 24), (0, u "com/example/soapwright/soapwright/envelope/XmlText"), (0, u "firstUnwritable"), (0, u "(Ljava/lang/CharSequence;)I"), (0, .methodref 9 26), (0, .nameAndType 27 28), (0, u "ref"), (0, u "([CI)I"), (0, .integer 55296), (0, .integer 56320), (0, .integer 65504), (0, .integer 65535), (0, .integer 55295), (0, .integer 57344), (0, .integer 65533), (0, .integer 56319), (0, .integer 57343), (0, .methodref 9 39), (0, .nameAndType 40 41), (0, u "ok"), (0, u "(C)Z"), (0, .methodref 9 43), (0, .nameAndType 44 45), (0, u "step"), (0, u "([CII)I"), (2, u "law"), (0, u "(IIII)Z")] 5

def k1m0 : Method := { name := "<init>", desc := "()V", sig := { parameters := [], returnType := none }, accessFlags := 1, code := none }
def k1c1 : Code := { maxStack := 4, maxLocals := 11, code := code, exceptionTable := #[], attributes := #[] }
def k1m1 : Method := { name := "law", desc := "(IIII)Z", sig := { parameters := [.int, .int, .int, .int], returnType := some .boolean }, accessFlags := 9, code := some k1c1 }
def k1c2 : Code := { maxStack := 3, maxLocals := 3, code := method_3_code, exceptionTable := #[], attributes := #[] }
def k1m2 : Method := { name := "draw", desc := "(I)C", sig := { parameters := [.int], returnType := some .char }, accessFlags := 10, code := some k1c2 }
def k1c3 : Code := { maxStack := 2, maxLocals := 1, code := method_4_code, exceptionTable := #[], attributes := #[] }
def k1m3 : Method := { name := "ok", desc := "(C)Z", sig := { parameters := [.char], returnType := some .boolean }, accessFlags := 10, code := some k1c3 }
def k1c4 : Code := { maxStack := 3, maxLocals := 4, code := method_5_code, exceptionTable := #[], attributes := #[] }
def k1m4 : Method := { name := "step", desc := "([CII)I", sig := { parameters := [(.array .char), .int, .int], returnType := some .int }, accessFlags := 10, code := some k1c4 }
def k1c5 : Code := { maxStack := 3, maxLocals := 4, code := method_6_code, exceptionTable := #[], attributes := #[] }
def k1m5 : Method := { name := "ref", desc := "([CI)I", sig := { parameters := [(.array .char), .int], returnType := some .int }, accessFlags := 10, code := some k1c5 }
/-- com/example/soapwright/soapwright/envelope/XmlTextFirstUnwritablePinLaw -/
def k1 : Class := { plain "com/example/soapwright/soapwright/envelope/XmlTextFirstUnwritablePinLaw" (some 0) with
  accessFlags := 49
  interfaces := #[]
  cf := some (fileOf pool1 9 #[] #[{ accessFlags := 1, nameIndex := 5, descriptorIndex := 6, attributes := #[] }, { accessFlags := 9, nameIndex := 48, descriptorIndex := 49, attributes := #[] }, { accessFlags := 10, nameIndex := 12, descriptorIndex := 13, attributes := #[] }, { accessFlags := 10, nameIndex := 40, descriptorIndex := 41, attributes := #[] }, { accessFlags := 10, nameIndex := 44, descriptorIndex := 45, attributes := #[] }, { accessFlags := 10, nameIndex := 27, descriptorIndex := 28, attributes := #[] }] 49 2 #[] #[])
  fields := #[]
  methods := #[k1m0, k1m1, k1m2, k1m3, k1m4, k1m5]
  instanceTypes := #[]
  staticTypes := #[]
  resolved := Array.replicate 55 none
  statics := none }

def pool2 : Array CpInfo := pool [(1, .class_ 2), (0, u "java/io/Serializable"), (0, .class_ 4), (0, u "java/lang/Object")] 2

/-- java/io/Serializable -/
def k2 : Class := { plain "java/io/Serializable" (some 0) with
  accessFlags := 1537
  interfaces := #[]
  cf := some (fileOf pool2 1 #[] #[] 1537 3 #[] #[])
  fields := #[]
  methods := #[]
  instanceTypes := #[]
  staticTypes := #[]
  resolved := Array.replicate 7 none
  statics := none }

def pool3 : Array CpInfo := pool [(1, .class_ 2), (0, u "java/lang/Comparable"), (0, .class_ 4), (0, u "java/lang/Object")] 7

/-- java/lang/Comparable -/
def k3 : Class := { plain "java/lang/Comparable" (some 0) with
  accessFlags := 1537
  interfaces := #[]
  cf := some (fileOf pool3 1 #[] #[] 1537 3 #[] #[])
  fields := #[]
  methods := #[]
  instanceTypes := #[]
  staticTypes := #[]
  resolved := Array.replicate 12 none
  statics := none }

def pool4 : Array CpInfo := pool [(2, .class_ 4), (1, u "java/lang/CharSequence"), (0, u "length"), (0, u "()I"), (38, u "charAt"), (0, u "(I)C"), (0, .class_ 48), (0, u "java/lang/CharSequence$1CodePointIterator"), (10, .class_ 60), (0, u "java/lang/CharSequence$1CharIterator"), (5, .class_ 67), (0, u "java/lang/Object")] 63

def k4m0 : Method := { name := "length", desc := "()I", sig := { parameters := [], returnType := some .int }, accessFlags := 1025, code := none }
def k4m1 : Method := { name := "charAt", desc := "(I)C", sig := { parameters := [.int], returnType := some .char }, accessFlags := 1025, code := none }
/-- java/lang/CharSequence -/
def k4 : Class := { plain "java/lang/CharSequence" (some 0) with
  accessFlags := 1537
  interfaces := #[]
  cf := some (fileOf pool4 2 #[.nestMembers #[47, 59]] #[{ accessFlags := 1025, nameIndex := 5, descriptorIndex := 6, attributes := #[] }, { accessFlags := 1025, nameIndex := 45, descriptorIndex := 46, attributes := #[] }] 1537 66 #[] #[])
  fields := #[]
  methods := #[k4m0, k4m1]
  instanceTypes := #[]
  staticTypes := #[]
  resolved := Array.replicate 131 none
  statics := none }

def pool5 : Array CpInfo := pool [(1, .class_ 2), (0, u "java/lang/constant/Constable"), (0, .class_ 4), (0, u "java/lang/Object")] 6

/-- java/lang/constant/Constable -/
def k5 : Class := { plain "java/lang/constant/Constable" (some 0) with
  accessFlags := 1537
  interfaces := #[]
  cf := some (fileOf pool5 1 #[] #[] 1537 3 #[] #[])
  fields := #[]
  methods := #[]
  instanceTypes := #[]
  staticTypes := #[]
  resolved := Array.replicate 11 none
  statics := none }

def pool6 : Array CpInfo := pool [(1, .class_ 2), (0, u "java/lang/constant/ConstantDesc"), (0, .class_ 4), (0, u "java/lang/Object")] 32

/-- java/lang/constant/ConstantDesc -/
def k6 : Class := { plain "java/lang/constant/ConstantDesc" (some 0) with
  accessFlags := 1537
  interfaces := #[]
  cf := some (fileOf pool6 1 #[] #[] 1537 3 #[] #[])
  fields := #[]
  methods := #[]
  instanceTypes := #[]
  staticTypes := #[]
  resolved := Array.replicate 37 none
  statics := none }

def pool7 : Array CpInfo := pool [(1, .methodref 2 3), (0, .class_ 4), (0, .nameAndType 5 6), (0, u "java/lang/Object"), (0, u "<init>"), (0, u "()V"), (0, .string 8), (0, u ""), (0, .fieldref 10 11), (0, .class_ 12), (0, .nameAndType 13 14), (0, u "java/lang/String"), (0, u "value"), (0, u "[B"), (0, .fieldref 10 16), (0, .nameAndType 17 18), (0, u "coder"), (0, u "B"), (2, u "hash"), (0, u "I"), (2, u "hashIsZero"), (0, u "Z"), (0, .methodref 10 28), (0, .nameAndType 5 29), (0, u "([CIILjava/lang/Void;)V"), (8, .fieldref 10 39), (0, .nameAndType 40 26), (0, u "COMPACT_STRINGS"), (1, .class_ 44), (1, u "java/lang/StringUTF16"), (0, u "compress"), (1, .methodref 42 48), (0, .nameAndType 49 50), (0, u "coderFromArrayLen"), (0, u "([BI)B"), (56, .class_ 109), (1, u "java/lang/StringLatin1"), (32, u "()Z"), (34, .methodref 42 178), (0, .nameAndType 45 179), (0, u "([CII)[B"), (154, u "()I"), (0, .methodref 10 336), (0, .nameAndType 17 337), (0, u "()B"), (25, u "([BI)C"), (27, u "(II)V"), (35, u "(I)C"), (64, .methodref 10 493), (0, .nameAndType 494 142), (0, u "isLatin1"), (0, .methodref 107 496), (0, .nameAndType 497 363), (0, u "charAt"), (0, .methodref 42 496), (2, u "checkIndex"), (5, u "length"), (67, .class_ 576), (0, u "java/lang/CharSequence"), (22, u "CASE_INSENSITIVE_ORDER"), (0, u "Ljava/util/Comparator;"), (409, u "([C)V"), (42, .fieldref 1054 1055), (0, .class_ 1056), (0, .nameAndType 1057 1058), (0, u "jdk/internal/util/Preconditions"), (0, u "SIOOBE_FORMATTER"), (0, u "Ljava/util/function/BiFunction;"), (0, .methodref 1054 1060), (0, .nameAndType 501 1061), (0, u "(IILjava/util/function/BiFunction;)I"), (39, u "serialPersistentFields"), (0, u "[Ljava/io/ObjectStreamField;"), (0, .class_ 1104), (0, u "java/lang/String$CaseInsensitiveComparator"), (1, .class_ 1107), (0, u "java/io/Serializable"), (0, .class_ 1109), (0, u "java/lang/Comparable"), (0, .class_ 1111), (0, u "java/lang/constant/Constable"), (0, .class_ 1113), (0, u "java/lang/constant/ConstantDesc"), (2, u "serialVersionUID"), (0, u "J"), (3, u "REPL"), (0, u "C"), (2, u "LATIN1"), (1, u "UTF16")] 323

def k7m0 : Method := { name := "<init>", desc := "()V", sig := { parameters := [], returnType := none }, accessFlags := 1, code := none }
def k7c1 : Code := { maxStack := 5, maxLocals := 2, code := jdk_42_method_3_code, exceptionTable := #[], attributes := #[] }
def k7m1 : Method := { name := "<init>", desc := "([C)V", sig := { parameters := [(.array .char)], returnType := none }, accessFlags := 1, code := some k7c1 }
def k7c2 : Code := { maxStack := 2, maxLocals := 1, code := jdk_42_method_54_code, exceptionTable := #[], attributes := #[] }
def k7m2 : Method := { name := "length", desc := "()I", sig := { parameters := [], returnType := some .int }, accessFlags := 1, code := some k7c2 }
def k7c3 : Code := { maxStack := 2, maxLocals := 2, code := jdk_42_method_56_code, exceptionTable := #[], attributes := #[] }
def k7m3 : Method := { name := "charAt", desc := "(I)C", sig := { parameters := [.int], returnType := some .char }, accessFlags := 1, code := some k7c3 }
def k7c4 : Code := { maxStack := 4, maxLocals := 6, code := jdk_42_method_149_code, exceptionTable := #[], attributes := #[] }
def k7m4 : Method := { name := "<init>", desc := "([CIILjava/lang/Void;)V", sig := { parameters := [(.array .char), .int, .int, (.object "java/lang/Void")], returnType := none }, accessFlags := 2, code := some k7c4 }
def k7c5 : Code := { maxStack := 1, maxLocals := 1, code := jdk_42_method_152_code, exceptionTable := #[], attributes := #[] }
def k7m5 : Method := { name := "coder", desc := "()B", sig := { parameters := [], returnType := some .byte }, accessFlags := 0, code := some k7c5 }
def k7c6 : Code := { maxStack := 1, maxLocals := 1, code := jdk_42_method_154_code, exceptionTable := #[], attributes := #[] }
def k7m6 : Method := { name := "isLatin1", desc := "()Z", sig := { parameters := [], returnType := some .boolean }, accessFlags := 0, code := some k7c6 }
def k7c7 : Code := { maxStack := 3, maxLocals := 2, code := jdk_42_method_155_code, exceptionTable := #[], attributes := #[] }
def k7m7 : Method := { name := "checkIndex", desc := "(II)V", sig := { parameters := [.int, .int], returnType := none }, accessFlags := 8, code := some k7c7 }
/-- java/lang/String -/
def k7 : Class := { plain "java/lang/String" (some 0) with
  accessFlags := 49
  interfaces := #[2, 3, 4, 5, 6]
  cf := some (fileOf pool7 10 #[.nestMembers #[1103]] #[{ accessFlags := 1, nameIndex := 5, descriptorIndex := 6, attributes := #[] }, { accessFlags := 1, nameIndex := 5, descriptorIndex := 1010, attributes := #[] }, { accessFlags := 1, nameIndex := 507, descriptorIndex := 334, attributes := #[] }, { accessFlags := 1, nameIndex := 497, descriptorIndex := 427, attributes := #[] }, { accessFlags := 2, nameIndex := 5, descriptorIndex := 29, attributes := #[] }, { accessFlags := 0, nameIndex := 17, descriptorIndex := 337, attributes := #[] }, { accessFlags := 0, nameIndex := 494, descriptorIndex := 142, attributes := #[] }, { accessFlags := 8, nameIndex := 501, descriptorIndex := 391, attributes := #[] }] 49 2 #[1106, 1108, 575, 1110, 1112] #[{ accessFlags := 18, nameIndex := 13, descriptorIndex := 14, attributes := #[] }, { accessFlags := 18, nameIndex := 17, descriptorIndex := 18, attributes := #[] }, { accessFlags := 2, nameIndex := 21, descriptorIndex := 22, attributes := #[] }, { accessFlags := 2, nameIndex := 25, descriptorIndex := 26, attributes := #[] }, { accessFlags := 26, nameIndex := 1116, descriptorIndex := 1117, attributes := #[] }, { accessFlags := 24, nameIndex := 40, descriptorIndex := 26, attributes := #[] }, { accessFlags := 26, nameIndex := 1101, descriptorIndex := 1102, attributes := #[] }, { accessFlags := 26, nameIndex := 1121, descriptorIndex := 1122, attributes := #[] }, { accessFlags := 25, nameIndex := 599, descriptorIndex := 600, attributes := #[] }, { accessFlags := 24, nameIndex := 1125, descriptorIndex := 18, attributes := #[] }, { accessFlags := 24, nameIndex := 1127, descriptorIndex := 18, attributes := #[] }])
  fields := #[{ name := "value", type := (.array .byte), accessFlags := 18, slot := 0, constantValue := 0 }, { name := "coder", type := .byte, accessFlags := 18, slot := 1, constantValue := 0 }, { name := "hash", type := .int, accessFlags := 2, slot := 2, constantValue := 0 }, { name := "hashIsZero", type := .boolean, accessFlags := 2, slot := 3, constantValue := 0 }, { name := "serialVersionUID", type := .long, accessFlags := 26, slot := 0, constantValue := 0 }, { name := "COMPACT_STRINGS", type := .boolean, accessFlags := 24, slot := 1, constantValue := 0 }, { name := "serialPersistentFields", type := (.array (.object "java/io/ObjectStreamField")), accessFlags := 26, slot := 2, constantValue := 0 }, { name := "REPL", type := .char, accessFlags := 26, slot := 3, constantValue := 0 }, { name := "CASE_INSENSITIVE_ORDER", type := (.object "java/util/Comparator"), accessFlags := 25, slot := 4, constantValue := 0 }, { name := "LATIN1", type := .byte, accessFlags := 24, slot := 5, constantValue := 0 }, { name := "UTF16", type := .byte, accessFlags := 24, slot := 6, constantValue := 0 }]
  methods := #[k7m0, k7m1, k7m2, k7m3, k7m4, k7m5, k7m6, k7m7]
  instanceTypes := #[(.array .byte), .byte, .int, .boolean]
  staticTypes := #[.long, .boolean, (.array (.object "java/io/ObjectStreamField")), .char, (.object "java/util/Comparator"), .byte, .byte]
  resolved := Array.replicate 1451 none
  statics := some 0 }

def pool8 : Array CpInfo := pool [(2, .class_ 4), (1, u "java/lang/Object"), (0, u "<init>"), (0, u "()V"), (0, .interfaceMethodref 8 9), (0, .class_ 10), (0, .nameAndType 11 12), (0, u "java/lang/CharSequence"), (0, u "length"), (0, u "()I"), (0, .methodref 14 15), (0, .class_ 16), (0, .nameAndType 17 18), (0, u "java/lang/Character"), (0, u "codePointAt"), (0, u "(Ljava/lang/CharSequence;I)I"), (0, .methodref 20 21), (0, .class_ 22), (0, .nameAndType 23 24), (0, u "com/example/soapwright/soapwright/envelope/XmlText"), (0, u "isXmlCharacter"), (0, u "(I)Z"), (0, .methodref 14 26), (0, .nameAndType 27 28), (0, u "charCount"), (0, u "(I)I"), (14, .integer 65533), (8, .integer 55295), (0, .integer 57344), (0, .integer 65536), (0, .integer 1114111), (0, u "REPLACEMENT"), (0, u "C"), (3, u "firstUnwritable"), (0, u "(Ljava/lang/CharSequence;)I")] 5

def k8m0 : Method := { name := "<init>", desc := "()V", sig := { parameters := [], returnType := none }, accessFlags := 2, code := none }
def k8c1 : Code := { maxStack := 2, maxLocals := 3, code := prog_23_method_2_code, exceptionTable := #[], attributes := #[] }
def k8m1 : Method := { name := "firstUnwritable", desc := "(Ljava/lang/CharSequence;)I", sig := { parameters := [(.object "java/lang/CharSequence")], returnType := some .int }, accessFlags := 9, code := some k8c1 }
def k8c2 : Code := { maxStack := 2, maxLocals := 1, code := prog_23_method_4_code, exceptionTable := #[], attributes := #[] }
def k8m2 : Method := { name := "isXmlCharacter", desc := "(I)Z", sig := { parameters := [.int], returnType := some .boolean }, accessFlags := 10, code := some k8c2 }
/-- com/example/soapwright/soapwright/envelope/XmlText -/
def k8 : Class := { plain "com/example/soapwright/soapwright/envelope/XmlText" (some 0) with
  accessFlags := 33
  interfaces := #[]
  cf := some (fileOf pool8 20 #[] #[{ accessFlags := 2, nameIndex := 5, descriptorIndex := 6, attributes := #[] }, { accessFlags := 9, nameIndex := 61, descriptorIndex := 62, attributes := #[] }, { accessFlags := 10, nameIndex := 23, descriptorIndex := 24, attributes := #[] }] 33 2 #[] #[{ accessFlags := 26, nameIndex := 56, descriptorIndex := 57, attributes := #[] }])
  fields := #[{ name := "REPLACEMENT", type := .char, accessFlags := 26, slot := 0, constantValue := 0 }]
  methods := #[k8m0, k8m1, k8m2]
  instanceTypes := #[]
  staticTypes := #[.char]
  resolved := Array.replicate 68 none
  statics := none }

def pool9 : Array CpInfo := pool [(3, .class_ 4), (0, u "java/lang/String"), (1, .class_ 8), (1, u "java/lang/Object"), (0, u "<init>"), (0, u "()V"), (0, .methodref 12 13), (0, .class_ 14), (0, .nameAndType 15 16), (0, u "java/lang/StringUTF16"), (0, u "newBytesLength"), (0, u "(I)I"), (3, .integer 1073741823), (23, .fieldref 12 45), (0, .nameAndType 46 47), (0, u "$assertionsDisabled"), (0, u "Z"), (0, .methodref 12 49), (0, .nameAndType 50 51), (0, u "length"), (0, u "([B)I"), (7, .fieldref 12 60), (0, .nameAndType 61 62), (0, u "HI_BYTE_SHIFT"), (0, u "I"), (0, .fieldref 12 64), (0, .nameAndType 65 62), (0, u "LO_BYTE_SHIFT"), (1, .methodref 12 68), (0, .nameAndType 69 70), (0, u "checkIndex"), (0, u "(I[B)V"), (0, .methodref 12 72), (0, .nameAndType 73 74), (0, u "getChar"), (0, u "([BI)C"), (32, .methodref 12 108), (0, .nameAndType 109 110), (0, u "newBytesFor"), (0, u "(I)[B"), (0, .methodref 12 112), (0, .nameAndType 113 114), (0, u "putChar"), (0, u "([BII)V"), (0, .methodref 12 116), (0, .nameAndType 117 118), (0, u "compress"), (0, u "([CI[BII)I"), (0, .methodref 12 120), (0, .nameAndType 121 122), (0, u "toBytes"), (0, u "([CII)[B"), (138, u "coderFromArrayLen"), (0, u "([BI)B"), (106, .class_ 371), (1, u "java/lang/StringUTF16$LinesSpliterator"), (20, u "charAt"), (21, .methodref 3 415), (0, .nameAndType 69 416), (0, u "(II)V"), (13, u "MAX_LENGTH"), (196, .class_ 628), (0, u "java/lang/StringUTF16$CodePointsSpliterator"), (0, .class_ 630), (0, u "java/lang/StringUTF16$CharsSpliterator")] 4

def k9m0 : Method := { name := "<init>", desc := "()V", sig := { parameters := [], returnType := none }, accessFlags := 0, code := none }
def k9c1 : Code := { maxStack := 1, maxLocals := 1, code := jdk_52_method_2_code, exceptionTable := #[], attributes := #[] }
def k9m1 : Method := { name := "newBytesFor", desc := "(I)[B", sig := { parameters := [.int], returnType := some (.array .byte) }, accessFlags := 9, code := some k9c1 }
def k9c2 : Code := { maxStack := 4, maxLocals := 1, code := jdk_52_method_3_code, exceptionTable := #[], attributes := #[] }
def k9m2 : Method := { name := "newBytesLength", desc := "(I)I", sig := { parameters := [.int], returnType := some .int }, accessFlags := 9, code := some k9c2 }
def k9c3 : Code := { maxStack := 4, maxLocals := 3, code := jdk_52_method_4_code, exceptionTable := #[], attributes := #[] }
def k9m3 : Method := { name := "putChar", desc := "([BII)V", sig := { parameters := [(.array .byte), .int, .int], returnType := none }, accessFlags := 8, code := some k9c3 }
def k9c4 : Code := { maxStack := 3, maxLocals := 2, code := jdk_52_method_5_code, exceptionTable := #[], attributes := #[] }
def k9m4 : Method := { name := "getChar", desc := "([BI)C", sig := { parameters := [(.array .byte), .int], returnType := some .char }, accessFlags := 8, code := some k9c4 }
def k9c5 : Code := { maxStack := 2, maxLocals := 1, code := jdk_52_method_6_code, exceptionTable := #[], attributes := #[] }
def k9m5 : Method := { name := "length", desc := "([B)I", sig := { parameters := [(.array .byte)], returnType := some .int }, accessFlags := 9, code := some k9c5 }
def k9c6 : Code := { maxStack := 4, maxLocals := 5, code := jdk_52_method_14_code, exceptionTable := #[], attributes := #[] }
def k9m6 : Method := { name := "toBytes", desc := "([CII)[B", sig := { parameters := [(.array .char), .int, .int], returnType := some (.array .byte) }, accessFlags := 9, code := some k9c6 }
def k9c7 : Code := { maxStack := 2, maxLocals := 2, code := jdk_52_method_15_code, exceptionTable := #[], attributes := #[] }
def k9m7 : Method := { name := "coderFromArrayLen", desc := "([BI)B", sig := { parameters := [(.array .byte), .int], returnType := some .byte }, accessFlags := 8, code := some k9c7 }
def k9c8 : Code := { maxStack := 5, maxLocals := 6, code := jdk_52_method_16_code, exceptionTable := #[], attributes := #[] }
def k9m8 : Method := { name := "compress", desc := "([CII)[B", sig := { parameters := [(.array .char), .int, .int], returnType := some (.array .byte) }, accessFlags := 9, code := some k9c8 }
def k9c9 : Code := { maxStack := 3, maxLocals := 7, code := jdk_52_method_21_code, exceptionTable := #[], attributes := #[] }
def k9m9 : Method := { name := "compress", desc := "([CI[BII)I", sig := { parameters := [(.array .char), .int, (.array .byte), .int, .int], returnType := some .int }, accessFlags := 9, code := some k9c9 }
def k9c10 : Code := { maxStack := 2, maxLocals := 2, code := jdk_52_method_83_code, exceptionTable := #[], attributes := #[] }
def k9m10 : Method := { name := "charAt", desc := "([BI)C", sig := { parameters := [(.array .byte), .int], returnType := some .char }, accessFlags := 9, code := some k9c10 }
def k9c11 : Code := { maxStack := 2, maxLocals := 2, code := jdk_52_method_91_code, exceptionTable := #[], attributes := #[] }
def k9m11 : Method := { name := "checkIndex", desc := "(I[B)V", sig := { parameters := [.int, (.array .byte)], returnType := none }, accessFlags := 9, code := some k9c11 }
/-- java/lang/StringUTF16 -/
def k9 : Class := { plain "java/lang/StringUTF16" (some 0) with
  accessFlags := 48
  interfaces := #[]
  cf := some (fileOf pool9 12 #[.nestMembers #[627, 629, 369]] #[{ accessFlags := 0, nameIndex := 9, descriptorIndex := 10, attributes := #[] }, { accessFlags := 9, nameIndex := 109, descriptorIndex := 110, attributes := #[] }, { accessFlags := 9, nameIndex := 15, descriptorIndex := 16, attributes := #[] }, { accessFlags := 8, nameIndex := 113, descriptorIndex := 114, attributes := #[] }, { accessFlags := 8, nameIndex := 73, descriptorIndex := 74, attributes := #[] }, { accessFlags := 9, nameIndex := 50, descriptorIndex := 51, attributes := #[] }, { accessFlags := 9, nameIndex := 121, descriptorIndex := 122, attributes := #[] }, { accessFlags := 8, nameIndex := 261, descriptorIndex := 262, attributes := #[] }, { accessFlags := 9, nameIndex := 117, descriptorIndex := 122, attributes := #[] }, { accessFlags := 9, nameIndex := 117, descriptorIndex := 118, attributes := #[] }, { accessFlags := 9, nameIndex := 392, descriptorIndex := 74, attributes := #[] }, { accessFlags := 9, nameIndex := 69, descriptorIndex := 70, attributes := #[] }] 48 6 #[] #[{ accessFlags := 26, nameIndex := 61, descriptorIndex := 62, attributes := #[] }, { accessFlags := 26, nameIndex := 65, descriptorIndex := 62, attributes := #[] }, { accessFlags := 24, nameIndex := 430, descriptorIndex := 62, attributes := #[] }, { accessFlags := 4120, nameIndex := 46, descriptorIndex := 47, attributes := #[] }])
  fields := #[{ name := "HI_BYTE_SHIFT", type := .int, accessFlags := 26, slot := 0, constantValue := 0 }, { name := "LO_BYTE_SHIFT", type := .int, accessFlags := 26, slot := 1, constantValue := 0 }, { name := "MAX_LENGTH", type := .int, accessFlags := 24, slot := 2, constantValue := 0 }, { name := "$assertionsDisabled", type := .boolean, accessFlags := 4120, slot := 3, constantValue := 0 }]
  methods := #[k9m0, k9m1, k9m2, k9m3, k9m4, k9m5, k9m6, k9m7, k9m8, k9m9, k9m10, k9m11]
  instanceTypes := #[]
  staticTypes := #[.int, .int, .int, .boolean]
  resolved := Array.replicate 635 none
  statics := some 1 }

def pool10 : Array CpInfo := pool [(1, .class_ 2), (0, u "java/lang/Character"), (18, u "value"), (0, u "C"), (19, .class_ 44), (1, u "java/lang/Object"), (3, .class_ 50), (1, u "java/lang/Character$CharacterCache"), (22, .integer 65536), (1, .integer 55296), (0, .integer 56320), (0, .integer 57344), (0, .methodref 1 79), (0, .nameAndType 80 81), (0, u "isHighSurrogate"), (0, u "(C)Z"), (0, .methodref 1 83), (0, .nameAndType 84 81), (0, u "isLowSurrogate"), (0, .integer 4238353408), (0, .interfaceMethodref 87 88), (0, .class_ 89), (0, .nameAndType 90 91), (0, u "java/lang/CharSequence"), (0, u "charAt"), (0, u "(I)C"), (0, .interfaceMethodref 87 93), (0, .nameAndType 94 95), (0, u "length"), (0, u "()I"), (0, .methodref 1 97), (0, .nameAndType 98 99), (0, u "toCodePoint"), (0, u "(CC)I"), (74, u "(I)I"), (109, u "$assertionsDisabled"), (0, u "Z"), (21, .class_ 309), (1, u "java/lang/Character$UnicodeBlock"), (73, u "TYPE"), (0, u "Ljava/lang/Class;"), (0, .class_ 386), (0, u "java/io/Serializable"), (0, .class_ 388), (0, u "java/lang/Comparable"), (0, .class_ 390), (0, u "java/lang/constant/Constable"), (0, u "MIN_RADIX"), (0, u "I"), (2, u "MAX_RADIX"), (1, u "MIN_VALUE"), (1, u "MAX_VALUE"), (3, u "UNASSIGNED"), (0, u "B"), (0, u "UPPERCASE_LETTER"), (1, u "LOWERCASE_LETTER"), (0, u "TITLECASE_LETTER"), (1, u "MODIFIER_LETTER"), (1, u "OTHER_LETTER"), (1, u "NON_SPACING_MARK"), (1, u "ENCLOSING_MARK"), (1, u "COMBINING_SPACING_MARK"), (1, u "DECIMAL_DIGIT_NUMBER"), (1, u "LETTER_NUMBER"), (1, u "OTHER_NUMBER"), (1, u "SPACE_SEPARATOR"), (1, u "LINE_SEPARATOR"), (1, u "PARAGRAPH_SEPARATOR"), (1, u "CONTROL"), (1, u "FORMAT"), (1, u "PRIVATE_USE"), (1, u "SURROGATE"), (1, u "DASH_PUNCTUATION"), (1, u "START_PUNCTUATION"), (1, u "END_PUNCTUATION"), (1, u "CONNECTOR_PUNCTUATION"), (1, u "OTHER_PUNCTUATION"), (1, u "MATH_SYMBOL"), (1, u "CURRENCY_SYMBOL"), (1, u "MODIFIER_SYMBOL"), (1, u "OTHER_SYMBOL"), (1, u "INITIAL_QUOTE_PUNCTUATION"), (1, u "FINAL_QUOTE_PUNCTUATION"), (1, u "ERROR"), (1, u "DIRECTIONALITY_UNDEFINED"), (0, u "DIRECTIONALITY_LEFT_TO_RIGHT"), (0, u "DIRECTIONALITY_RIGHT_TO_LEFT"), (0, u "DIRECTIONALITY_RIGHT_TO_LEFT_ARABIC"), (0, u "DIRECTIONALITY_EUROPEAN_NUMBER"), (0, u "DIRECTIONALITY_EUROPEAN_NUMBER_SEPARATOR"), (0, u "DIRECTIONALITY_EUROPEAN_NUMBER_TERMINATOR"), (0, u "DIRECTIONALITY_ARABIC_NUMBER"), (0, u "DIRECTIONALITY_COMMON_NUMBER_SEPARATOR"), (0, u "DIRECTIONALITY_NONSPACING_MARK"), (0, u "DIRECTIONALITY_BOUNDARY_NEUTRAL"), (0, u "DIRECTIONALITY_PARAGRAPH_SEPARATOR"), (0, u "DIRECTIONALITY_SEGMENT_SEPARATOR"), (0, u "DIRECTIONALITY_WHITESPACE"), (0, u "DIRECTIONALITY_OTHER_NEUTRALS"), (0, u "DIRECTIONALITY_LEFT_TO_RIGHT_EMBEDDING"), (0, u "DIRECTIONALITY_LEFT_TO_RIGHT_OVERRIDE"), (0, u "DIRECTIONALITY_RIGHT_TO_LEFT_EMBEDDING"), (0, u "DIRECTIONALITY_RIGHT_TO_LEFT_OVERRIDE"), (1, u "DIRECTIONALITY_POP_DIRECTIONAL_FORMAT"), (0, u "DIRECTIONALITY_LEFT_TO_RIGHT_ISOLATE"), (0, u "DIRECTIONALITY_RIGHT_TO_LEFT_ISOLATE"), (0, u "DIRECTIONALITY_FIRST_STRONG_ISOLATE"), (0, u "DIRECTIONALITY_POP_DIRECTIONAL_ISOLATE"), (0, u "MIN_HIGH_SURROGATE"), (0, u "MAX_HIGH_SURROGATE"), (1, u "MIN_LOW_SURROGATE"), (0, u "MAX_LOW_SURROGATE"), (1, u "MIN_SURROGATE"), (0, u "MAX_SURROGATE"), (0, u "MIN_SUPPLEMENTARY_CODE_POINT"), (0, u "MIN_CODE_POINT"), (0, u "MAX_CODE_POINT"), (1, u "serialVersionUID"), (0, u "J"), (2, u "SIZE"), (0, u "BYTES"), (29, u "charCount"), (0, u "codePointAt"), (0, u "(Ljava/lang/CharSequence;I)I"), (56, .class_ 596), (0, u "java/lang/Character$UnicodeScript"), (0, .class_ 598), (0, u "java/lang/Character$Subset")] 5

def k10c0 : Code := { maxStack := 2, maxLocals := 1, code := jdk_89_method_14_code, exceptionTable := #[], attributes := #[] }
def k10m0 : Method := { name := "isHighSurrogate", desc := "(C)Z", sig := { parameters := [.char], returnType := some .boolean }, accessFlags := 9, code := some k10c0 }
def k10c1 : Code := { maxStack := 2, maxLocals := 1, code := jdk_89_method_15_code, exceptionTable := #[], attributes := #[] }
def k10m1 : Method := { name := "isLowSurrogate", desc := "(C)Z", sig := { parameters := [.char], returnType := some .boolean }, accessFlags := 9, code := some k10c1 }
def k10c2 : Code := { maxStack := 2, maxLocals := 1, code := jdk_89_method_18_code, exceptionTable := #[], attributes := #[] }
def k10m2 : Method := { name := "charCount", desc := "(I)I", sig := { parameters := [.int], returnType := some .int }, accessFlags := 9, code := some k10c2 }
def k10c3 : Code := { maxStack := 2, maxLocals := 2, code := jdk_89_method_19_code, exceptionTable := #[], attributes := #[] }
def k10m3 : Method := { name := "toCodePoint", desc := "(CC)I", sig := { parameters := [.char, .char], returnType := some .int }, accessFlags := 9, code := some k10c3 }
def k10c4 : Code := { maxStack := 2, maxLocals := 4, code := jdk_89_method_20_code, exceptionTable := #[], attributes := #[] }
def k10m4 : Method := { name := "codePointAt", desc := "(Ljava/lang/CharSequence;I)I", sig := { parameters := [(.object "java/lang/CharSequence"), .int], returnType := some .int }, accessFlags := 9, code := some k10c4 }
/-- java/lang/Character -/
def k10 : Class := { plain "java/lang/Character" (some 0) with
  accessFlags := 49
  interfaces := #[2, 3, 5]
  cf := some (fileOf pool10 1 #[.nestMembers #[48, 595, 307, 597]] #[{ accessFlags := 9, nameIndex := 80, descriptorIndex := 81, attributes := #[] }, { accessFlags := 9, nameIndex := 84, descriptorIndex := 81, attributes := #[] }, { accessFlags := 9, nameIndex := 536, descriptorIndex := 174, attributes := #[] }, { accessFlags := 9, nameIndex := 98, descriptorIndex := 99, attributes := #[] }, { accessFlags := 9, nameIndex := 537, descriptorIndex := 538, attributes := #[] }] 49 42 #[385, 387, 389] #[{ accessFlags := 25, nameIndex := 391, descriptorIndex := 392, attributes := #[] }, { accessFlags := 25, nameIndex := 395, descriptorIndex := 392, attributes := #[] }, { accessFlags := 25, nameIndex := 397, descriptorIndex := 22, attributes := #[] }, { accessFlags := 25, nameIndex := 399, descriptorIndex := 22, attributes := #[] }, { accessFlags := 25, nameIndex := 383, descriptorIndex := 384, attributes := #[] }, { accessFlags := 25, nameIndex := 403, descriptorIndex := 404, attributes := #[] }, { accessFlags := 25, nameIndex := 405, descriptorIndex := 404, attributes := #[] }, { accessFlags := 25, nameIndex := 407, descriptorIndex := 404, attributes := #[] }, { accessFlags := 25, nameIndex := 408, descriptorIndex := 404, attributes := #[] }, { accessFlags := 25, nameIndex := 410, descriptorIndex := 404, attributes := #[] }, { accessFlags := 25, nameIndex := 412, descriptorIndex := 404, attributes := #[] }, { accessFlags := 25, nameIndex := 414, descriptorIndex := 404, attributes := #[] }, { accessFlags := 25, nameIndex := 416, descriptorIndex := 404, attributes := #[] }, { accessFlags := 25, nameIndex := 418, descriptorIndex := 404, attributes := #[] }, { accessFlags := 25, nameIndex := 420, descriptorIndex := 404, attributes := #[] }, { accessFlags := 25, nameIndex := 422, descriptorIndex := 404, attributes := #[] }, { accessFlags := 25, nameIndex := 424, descriptorIndex := 404, attributes := #[] }, { accessFlags := 25, nameIndex := 426, descriptorIndex := 404, attributes := #[] }, { accessFlags := 25, nameIndex := 428, descriptorIndex := 404, attributes := #[] }, { accessFlags := 25, nameIndex := 430, descriptorIndex := 404, attributes := #[] }, { accessFlags := 25, nameIndex := 432, descriptorIndex := 404, attributes := #[] }, { accessFlags := 25, nameIndex := 434, descriptorIndex := 404, attributes := #[] }, { accessFlags := 25, nameIndex := 436, descriptorIndex := 404, attributes := #[] }, { accessFlags := 25, nameIndex := 438, descriptorIndex := 404, attributes := #[] }, { accessFlags := 25, nameIndex := 440, descriptorIndex := 404, attributes := #[] }, { accessFlags := 25, nameIndex := 442, descriptorIndex := 404, attributes := #[] }, { accessFlags := 25, nameIndex := 444, descriptorIndex := 404, attributes := #[] }, { accessFlags := 25, nameIndex := 446, descriptorIndex := 404, attributes := #[] }, { accessFlags := 25, nameIndex := 448, descriptorIndex := 404, attributes := #[] }, { accessFlags := 25, nameIndex := 450, descriptorIndex := 404, attributes := #[] }, { accessFlags := 25, nameIndex := 452, descriptorIndex := 404, attributes := #[] }, { accessFlags := 25, nameIndex := 454, descriptorIndex := 404, attributes := #[] }, { accessFlags := 25, nameIndex := 456, descriptorIndex := 404, attributes := #[] }, { accessFlags := 25, nameIndex := 458, descriptorIndex := 404, attributes := #[] }, { accessFlags := 25, nameIndex := 460, descriptorIndex := 404, attributes := #[] }, { accessFlags := 24, nameIndex := 462, descriptorIndex := 392, attributes := #[] }, { accessFlags := 25, nameIndex := 464, descriptorIndex := 404, attributes := #[] }, { accessFlags := 25, nameIndex := 465, descriptorIndex := 404, attributes := #[] }, { accessFlags := 25, nameIndex := 466, descriptorIndex := 404, attributes := #[] }, { accessFlags := 25, nameIndex := 467, descriptorIndex := 404, attributes := #[] }, { accessFlags := 25, nameIndex := 468, descriptorIndex := 404, attributes := #[] }, { accessFlags := 25, nameIndex := 469, descriptorIndex := 404, attributes := #[] }, { accessFlags := 25, nameIndex := 470, descriptorIndex := 404, attributes := #[] }, { accessFlags := 25, nameIndex := 471, descriptorIndex := 404, attributes := #[] }, { accessFlags := 25, nameIndex := 472, descriptorIndex := 404, attributes := #[] }, { accessFlags := 25, nameIndex := 473, descriptorIndex := 404, attributes := #[] }, { accessFlags := 25, nameIndex := 474, descriptorIndex := 404, attributes := #[] }, { accessFlags := 25, nameIndex := 475, descriptorIndex := 404, attributes := #[] }, { accessFlags := 25, nameIndex := 476, descriptorIndex := 404, attributes := #[] }, { accessFlags := 25, nameIndex := 477, descriptorIndex := 404, attributes := #[] }, { accessFlags := 25, nameIndex := 478, descriptorIndex := 404, attributes := #[] }, { accessFlags := 25, nameIndex := 479, descriptorIndex := 404, attributes := #[] }, { accessFlags := 25, nameIndex := 480, descriptorIndex := 404, attributes := #[] }, { accessFlags := 25, nameIndex := 481, descriptorIndex := 404, attributes := #[] }, { accessFlags := 25, nameIndex := 482, descriptorIndex := 404, attributes := #[] }, { accessFlags := 25, nameIndex := 484, descriptorIndex := 404, attributes := #[] }, { accessFlags := 25, nameIndex := 485, descriptorIndex := 404, attributes := #[] }, { accessFlags := 25, nameIndex := 486, descriptorIndex := 404, attributes := #[] }, { accessFlags := 25, nameIndex := 487, descriptorIndex := 404, attributes := #[] }, { accessFlags := 25, nameIndex := 488, descriptorIndex := 404, attributes := #[] }, { accessFlags := 25, nameIndex := 489, descriptorIndex := 22, attributes := #[] }, { accessFlags := 25, nameIndex := 490, descriptorIndex := 22, attributes := #[] }, { accessFlags := 25, nameIndex := 492, descriptorIndex := 22, attributes := #[] }, { accessFlags := 25, nameIndex := 493, descriptorIndex := 22, attributes := #[] }, { accessFlags := 25, nameIndex := 495, descriptorIndex := 22, attributes := #[] }, { accessFlags := 25, nameIndex := 496, descriptorIndex := 22, attributes := #[] }, { accessFlags := 25, nameIndex := 497, descriptorIndex := 392, attributes := #[] }, { accessFlags := 25, nameIndex := 498, descriptorIndex := 392, attributes := #[] }, { accessFlags := 25, nameIndex := 499, descriptorIndex := 392, attributes := #[] }, { accessFlags := 18, nameIndex := 21, descriptorIndex := 22, attributes := #[] }, { accessFlags := 26, nameIndex := 501, descriptorIndex := 502, attributes := #[] }, { accessFlags := 25, nameIndex := 505, descriptorIndex := 392, attributes := #[] }, { accessFlags := 25, nameIndex := 506, descriptorIndex := 392, attributes := #[] }, { accessFlags := 4120, nameIndex := 284, descriptorIndex := 285, attributes := #[] }])
  fields := #[{ name := "MIN_RADIX", type := .int, accessFlags := 25, slot := 0, constantValue := 0 }, { name := "MAX_RADIX", type := .int, accessFlags := 25, slot := 1, constantValue := 0 }, { name := "MIN_VALUE", type := .char, accessFlags := 25, slot := 2, constantValue := 0 }, { name := "MAX_VALUE", type := .char, accessFlags := 25, slot := 3, constantValue := 0 }, { name := "TYPE", type := (.object "java/lang/Class"), accessFlags := 25, slot := 4, constantValue := 0 }, { name := "UNASSIGNED", type := .byte, accessFlags := 25, slot := 5, constantValue := 0 }, { name := "UPPERCASE_LETTER", type := .byte, accessFlags := 25, slot := 6, constantValue := 0 }, { name := "LOWERCASE_LETTER", type := .byte, accessFlags := 25, slot := 7, constantValue := 0 }, { name := "TITLECASE_LETTER", type := .byte, accessFlags := 25, slot := 8, constantValue := 0 }, { name := "MODIFIER_LETTER", type := .byte, accessFlags := 25, slot := 9, constantValue := 0 }, { name := "OTHER_LETTER", type := .byte, accessFlags := 25, slot := 10, constantValue := 0 }, { name := "NON_SPACING_MARK", type := .byte, accessFlags := 25, slot := 11, constantValue := 0 }, { name := "ENCLOSING_MARK", type := .byte, accessFlags := 25, slot := 12, constantValue := 0 }, { name := "COMBINING_SPACING_MARK", type := .byte, accessFlags := 25, slot := 13, constantValue := 0 }, { name := "DECIMAL_DIGIT_NUMBER", type := .byte, accessFlags := 25, slot := 14, constantValue := 0 }, { name := "LETTER_NUMBER", type := .byte, accessFlags := 25, slot := 15, constantValue := 0 }, { name := "OTHER_NUMBER", type := .byte, accessFlags := 25, slot := 16, constantValue := 0 }, { name := "SPACE_SEPARATOR", type := .byte, accessFlags := 25, slot := 17, constantValue := 0 }, { name := "LINE_SEPARATOR", type := .byte, accessFlags := 25, slot := 18, constantValue := 0 }, { name := "PARAGRAPH_SEPARATOR", type := .byte, accessFlags := 25, slot := 19, constantValue := 0 }, { name := "CONTROL", type := .byte, accessFlags := 25, slot := 20, constantValue := 0 }, { name := "FORMAT", type := .byte, accessFlags := 25, slot := 21, constantValue := 0 }, { name := "PRIVATE_USE", type := .byte, accessFlags := 25, slot := 22, constantValue := 0 }, { name := "SURROGATE", type := .byte, accessFlags := 25, slot := 23, constantValue := 0 }, { name := "DASH_PUNCTUATION", type := .byte, accessFlags := 25, slot := 24, constantValue := 0 }, { name := "START_PUNCTUATION", type := .byte, accessFlags := 25, slot := 25, constantValue := 0 }, { name := "END_PUNCTUATION", type := .byte, accessFlags := 25, slot := 26, constantValue := 0 }, { name := "CONNECTOR_PUNCTUATION", type := .byte, accessFlags := 25, slot := 27, constantValue := 0 }, { name := "OTHER_PUNCTUATION", type := .byte, accessFlags := 25, slot := 28, constantValue := 0 }, { name := "MATH_SYMBOL", type := .byte, accessFlags := 25, slot := 29, constantValue := 0 }, { name := "CURRENCY_SYMBOL", type := .byte, accessFlags := 25, slot := 30, constantValue := 0 }, { name := "MODIFIER_SYMBOL", type := .byte, accessFlags := 25, slot := 31, constantValue := 0 }, { name := "OTHER_SYMBOL", type := .byte, accessFlags := 25, slot := 32, constantValue := 0 }, { name := "INITIAL_QUOTE_PUNCTUATION", type := .byte, accessFlags := 25, slot := 33, constantValue := 0 }, { name := "FINAL_QUOTE_PUNCTUATION", type := .byte, accessFlags := 25, slot := 34, constantValue := 0 }, { name := "ERROR", type := .int, accessFlags := 24, slot := 35, constantValue := 0 }, { name := "DIRECTIONALITY_UNDEFINED", type := .byte, accessFlags := 25, slot := 36, constantValue := 0 }, { name := "DIRECTIONALITY_LEFT_TO_RIGHT", type := .byte, accessFlags := 25, slot := 37, constantValue := 0 }, { name := "DIRECTIONALITY_RIGHT_TO_LEFT", type := .byte, accessFlags := 25, slot := 38, constantValue := 0 }, { name := "DIRECTIONALITY_RIGHT_TO_LEFT_ARABIC", type := .byte, accessFlags := 25, slot := 39, constantValue := 0 }, { name := "DIRECTIONALITY_EUROPEAN_NUMBER", type := .byte, accessFlags := 25, slot := 40, constantValue := 0 }, { name := "DIRECTIONALITY_EUROPEAN_NUMBER_SEPARATOR", type := .byte, accessFlags := 25, slot := 41, constantValue := 0 }, { name := "DIRECTIONALITY_EUROPEAN_NUMBER_TERMINATOR", type := .byte, accessFlags := 25, slot := 42, constantValue := 0 }, { name := "DIRECTIONALITY_ARABIC_NUMBER", type := .byte, accessFlags := 25, slot := 43, constantValue := 0 }, { name := "DIRECTIONALITY_COMMON_NUMBER_SEPARATOR", type := .byte, accessFlags := 25, slot := 44, constantValue := 0 }, { name := "DIRECTIONALITY_NONSPACING_MARK", type := .byte, accessFlags := 25, slot := 45, constantValue := 0 }, { name := "DIRECTIONALITY_BOUNDARY_NEUTRAL", type := .byte, accessFlags := 25, slot := 46, constantValue := 0 }, { name := "DIRECTIONALITY_PARAGRAPH_SEPARATOR", type := .byte, accessFlags := 25, slot := 47, constantValue := 0 }, { name := "DIRECTIONALITY_SEGMENT_SEPARATOR", type := .byte, accessFlags := 25, slot := 48, constantValue := 0 }, { name := "DIRECTIONALITY_WHITESPACE", type := .byte, accessFlags := 25, slot := 49, constantValue := 0 }, { name := "DIRECTIONALITY_OTHER_NEUTRALS", type := .byte, accessFlags := 25, slot := 50, constantValue := 0 }, { name := "DIRECTIONALITY_LEFT_TO_RIGHT_EMBEDDING", type := .byte, accessFlags := 25, slot := 51, constantValue := 0 }, { name := "DIRECTIONALITY_LEFT_TO_RIGHT_OVERRIDE", type := .byte, accessFlags := 25, slot := 52, constantValue := 0 }, { name := "DIRECTIONALITY_RIGHT_TO_LEFT_EMBEDDING", type := .byte, accessFlags := 25, slot := 53, constantValue := 0 }, { name := "DIRECTIONALITY_RIGHT_TO_LEFT_OVERRIDE", type := .byte, accessFlags := 25, slot := 54, constantValue := 0 }, { name := "DIRECTIONALITY_POP_DIRECTIONAL_FORMAT", type := .byte, accessFlags := 25, slot := 55, constantValue := 0 }, { name := "DIRECTIONALITY_LEFT_TO_RIGHT_ISOLATE", type := .byte, accessFlags := 25, slot := 56, constantValue := 0 }, { name := "DIRECTIONALITY_RIGHT_TO_LEFT_ISOLATE", type := .byte, accessFlags := 25, slot := 57, constantValue := 0 }, { name := "DIRECTIONALITY_FIRST_STRONG_ISOLATE", type := .byte, accessFlags := 25, slot := 58, constantValue := 0 }, { name := "DIRECTIONALITY_POP_DIRECTIONAL_ISOLATE", type := .byte, accessFlags := 25, slot := 59, constantValue := 0 }, { name := "MIN_HIGH_SURROGATE", type := .char, accessFlags := 25, slot := 60, constantValue := 0 }, { name := "MAX_HIGH_SURROGATE", type := .char, accessFlags := 25, slot := 61, constantValue := 0 }, { name := "MIN_LOW_SURROGATE", type := .char, accessFlags := 25, slot := 62, constantValue := 0 }, { name := "MAX_LOW_SURROGATE", type := .char, accessFlags := 25, slot := 63, constantValue := 0 }, { name := "MIN_SURROGATE", type := .char, accessFlags := 25, slot := 64, constantValue := 0 }, { name := "MAX_SURROGATE", type := .char, accessFlags := 25, slot := 65, constantValue := 0 }, { name := "MIN_SUPPLEMENTARY_CODE_POINT", type := .int, accessFlags := 25, slot := 66, constantValue := 0 }, { name := "MIN_CODE_POINT", type := .int, accessFlags := 25, slot := 67, constantValue := 0 }, { name := "MAX_CODE_POINT", type := .int, accessFlags := 25, slot := 68, constantValue := 0 }, { name := "value", type := .char, accessFlags := 18, slot := 0, constantValue := 0 }, { name := "serialVersionUID", type := .long, accessFlags := 26, slot := 69, constantValue := 0 }, { name := "SIZE", type := .int, accessFlags := 25, slot := 70, constantValue := 0 }, { name := "BYTES", type := .int, accessFlags := 25, slot := 71, constantValue := 0 }, { name := "$assertionsDisabled", type := .boolean, accessFlags := 4120, slot := 72, constantValue := 0 }]
  methods := #[k10m0, k10m1, k10m2, k10m3, k10m4]
  instanceTypes := #[.char]
  staticTypes := #[.int, .int, .char, .char, (.object "java/lang/Class"), .byte, .byte, .byte, .byte, .byte, .byte, .byte, .byte, .byte, .byte, .byte, .byte, .byte, .byte, .byte, .byte, .byte, .byte, .byte, .byte, .byte, .byte, .byte, .byte, .byte, .byte, .byte, .byte, .byte, .byte, .int, .byte, .byte, .byte, .byte, .byte, .byte, .byte, .byte, .byte, .byte, .byte, .byte, .byte, .byte, .byte, .byte, .byte, .byte, .byte, .byte, .byte, .byte, .byte, .byte, .char, .char, .char, .char, .char, .char, .int, .int, .int, .long, .int, .int, .boolean]
  resolved := Array.replicate 604 none
  statics := none }

def pool11 : Array CpInfo := pool [(1, .class_ 2), (0, u "java/lang/String"), (1, .class_ 6), (1, u "java/lang/Object"), (0, u "<init>"), (0, u "()V"), (0, .methodref 1 10), (0, .nameAndType 11 12), (0, u "checkIndex"), (0, u "(II)V"), (1, .class_ 16), (1, u "java/lang/StringLatin1"), (36, u "([BI)C"), (67, u "$assertionsDisabled"), (0, u "Z"), (98, .class_ 223), (1, u "java/lang/StringLatin1$LinesSpliterator"), (28, u "charAt"), (137, .class_ 391), (0, u "java/lang/StringLatin1$CharsSpliterator")] 3

def k11m0 : Method := { name := "<init>", desc := "()V", sig := { parameters := [], returnType := none }, accessFlags := 0, code := none }
def k11c1 : Code := { maxStack := 2, maxLocals := 2, code := jdk_43_method_2_code, exceptionTable := #[], attributes := #[] }
def k11m1 : Method := { name := "charAt", desc := "([BI)C", sig := { parameters := [(.array .byte), .int], returnType := some .char }, accessFlags := 9, code := some k11c1 }
/-- java/lang/StringLatin1 -/
def k11 : Class := { plain "java/lang/StringLatin1" (some 0) with
  accessFlags := 48
  interfaces := #[]
  cf := some (fileOf pool11 14 #[.nestMembers #[390, 221]] #[{ accessFlags := 0, nameIndex := 7, descriptorIndex := 8, attributes := #[] }, { accessFlags := 9, nameIndex := 252, descriptorIndex := 53, attributes := #[] }] 48 4 #[] #[{ accessFlags := 4120, nameIndex := 121, descriptorIndex := 122, attributes := #[] }])
  fields := #[{ name := "$assertionsDisabled", type := .boolean, accessFlags := 4120, slot := 0, constantValue := 0 }]
  methods := #[k11m0, k11m1]
  instanceTypes := #[]
  staticTypes := #[.boolean]
  resolved := Array.replicate 395 none
  statics := none }

def pool12 : Array CpInfo := pool [(2, .class_ 4), (1, u "java/lang/Object"), (0, u "<init>"), (0, u "()V"), (17, .class_ 26), (1, u "jdk/internal/util/Preconditions"), (6, u "checkIndex"), (21, .class_ 56), (0, u "jdk/internal/util/Preconditions$4"), (57, .class_ 115), (0, u "jdk/internal/util/Preconditions$1"), (7, u "SIOOBE_FORMATTER"), (0, u "Ljava/util/function/BiFunction;"), (0, .class_ 126), (0, u "jdk/internal/util/Preconditions$2"), (3, u "AIOOBE_FORMATTER"), (0, .class_ 132), (0, u "jdk/internal/util/Preconditions$3"), (3, u "IOOBE_FORMATTER"), (41, u "(IILjava/util/function/BiFunction;)I")] 15

def k12m0 : Method := { name := "<init>", desc := "()V", sig := { parameters := [], returnType := none }, accessFlags := 1, code := none }
def k12c1 : Code := { maxStack := 3, maxLocals := 3, code := jdk_41_method_11_code, exceptionTable := #[], attributes := #[] }
def k12m1 : Method := { name := "checkIndex", desc := "(IILjava/util/function/BiFunction;)I", sig := { parameters := [.int, .int, (.object "java/util/function/BiFunction")], returnType := some .int }, accessFlags := 9, code := some k12c1 }
/-- jdk/internal/util/Preconditions -/
def k12 : Class := { plain "jdk/internal/util/Preconditions" (some 0) with
  accessFlags := 33
  interfaces := #[]
  cf := some (fileOf pool12 24 #[.nestMembers #[55, 131, 125, 114]] #[{ accessFlags := 1, nameIndex := 5, descriptorIndex := 6, attributes := #[] }, { accessFlags := 9, nameIndex := 33, descriptorIndex := 178, attributes := #[] }] 33 2 #[] #[{ accessFlags := 25, nameIndex := 123, descriptorIndex := 124, attributes := #[] }, { accessFlags := 25, nameIndex := 130, descriptorIndex := 124, attributes := #[] }, { accessFlags := 25, nameIndex := 136, descriptorIndex := 124, attributes := #[] }])
  fields := #[{ name := "SIOOBE_FORMATTER", type := (.object "java/util/function/BiFunction"), accessFlags := 25, slot := 0, constantValue := 0 }, { name := "AIOOBE_FORMATTER", type := (.object "java/util/function/BiFunction"), accessFlags := 25, slot := 1, constantValue := 0 }, { name := "IOOBE_FORMATTER", type := (.object "java/util/function/BiFunction"), accessFlags := 25, slot := 2, constantValue := 0 }]
  methods := #[k12m0, k12m1]
  instanceTypes := #[]
  staticTypes := #[(.object "java/util/function/BiFunction"), (.object "java/util/function/BiFunction"), (.object "java/util/function/BiFunction")]
  resolved := Array.replicate 194 none
  statics := some 2 }

def pool13 : Array CpInfo := pool [(9, u "<init>"), (6, .class_ 18), (1, u "java/lang/Object"), (0, u "()V"), (1, .class_ 23), (1, u "jdk/internal/util/ArraysSupport"), (0, u "LOG2_ARRAY_LONG_INDEX_SCALE"), (0, u "I"), (2, u "U"), (0, u "Ljdk/internal/misc/Unsafe;"), (8, u "BIG_ENDIAN"), (0, u "Z"), (8, u "LOG2_BYTE_BIT_SIZE"), (4, u "LOG2_ARRAY_INT_INDEX_SCALE"), (54, u "JLA"), (0, u "Ljdk/internal/access/JavaLangAccess;"), (11, u "LOG2_ARRAY_BOOLEAN_INDEX_SCALE"), (9, u "LOG2_ARRAY_BYTE_INDEX_SCALE"), (5, u "LOG2_ARRAY_CHAR_INDEX_SCALE"), (5, u "LOG2_ARRAY_SHORT_INDEX_SCALE"), (18, u "LOG2_ARRAY_FLOAT_INDEX_SCALE"), (24, u "LOG2_ARRAY_DOUBLE_INDEX_SCALE"), (89, u "T_BOOLEAN"), (2, u "T_CHAR"), (1, u "T_FLOAT"), (1, u "T_DOUBLE"), (1, u "T_BYTE"), (1, u "T_SHORT"), (1, u "T_INT"), (1, u "T_LONG"), (1, u "SOFT_MAX_ARRAY_LENGTH")] 83

def k13m0 : Method := { name := "<init>", desc := "()V", sig := { parameters := [], returnType := none }, accessFlags := 2, code := none }
/-- jdk/internal/util/ArraysSupport -/
def k13 : Class := { plain "jdk/internal/util/ArraysSupport" (some 0) with
  accessFlags := 33
  interfaces := #[]
  cf := some (fileOf pool13 21 #[] #[{ accessFlags := 2, nameIndex := 9, descriptorIndex := 19, attributes := #[] }] 33 16 #[] #[{ accessFlags := 24, nameIndex := 28, descriptorIndex := 29, attributes := #[] }, { accessFlags := 26, nameIndex := 38, descriptorIndex := 39, attributes := #[] }, { accessFlags := 25, nameIndex := 121, descriptorIndex := 25, attributes := #[] }, { accessFlags := 25, nameIndex := 131, descriptorIndex := 25, attributes := #[] }, { accessFlags := 25, nameIndex := 137, descriptorIndex := 25, attributes := #[] }, { accessFlags := 25, nameIndex := 143, descriptorIndex := 25, attributes := #[] }, { accessFlags := 25, nameIndex := 53, descriptorIndex := 25, attributes := #[] }, { accessFlags := 25, nameIndex := 24, descriptorIndex := 25, attributes := #[] }, { accessFlags := 25, nameIndex := 162, descriptorIndex := 25, attributes := #[] }, { accessFlags := 25, nameIndex := 187, descriptorIndex := 25, attributes := #[] }, { accessFlags := 26, nameIndex := 48, descriptorIndex := 25, attributes := #[] }, { accessFlags := 25, nameIndex := 277, descriptorIndex := 25, attributes := #[] }, { accessFlags := 25, nameIndex := 280, descriptorIndex := 25, attributes := #[] }, { accessFlags := 25, nameIndex := 282, descriptorIndex := 25, attributes := #[] }, { accessFlags := 25, nameIndex := 284, descriptorIndex := 25, attributes := #[] }, { accessFlags := 25, nameIndex := 286, descriptorIndex := 25, attributes := #[] }, { accessFlags := 25, nameIndex := 288, descriptorIndex := 25, attributes := #[] }, { accessFlags := 25, nameIndex := 290, descriptorIndex := 25, attributes := #[] }, { accessFlags := 25, nameIndex := 292, descriptorIndex := 25, attributes := #[] }, { accessFlags := 26, nameIndex := 108, descriptorIndex := 109, attributes := #[] }, { accessFlags := 25, nameIndex := 294, descriptorIndex := 25, attributes := #[] }])
  fields := #[{ name := "U", type := (.object "jdk/internal/misc/Unsafe"), accessFlags := 24, slot := 0, constantValue := 0 }, { name := "BIG_ENDIAN", type := .boolean, accessFlags := 26, slot := 1, constantValue := 0 }, { name := "LOG2_ARRAY_BOOLEAN_INDEX_SCALE", type := .int, accessFlags := 25, slot := 2, constantValue := 0 }, { name := "LOG2_ARRAY_BYTE_INDEX_SCALE", type := .int, accessFlags := 25, slot := 3, constantValue := 0 }, { name := "LOG2_ARRAY_CHAR_INDEX_SCALE", type := .int, accessFlags := 25, slot := 4, constantValue := 0 }, { name := "LOG2_ARRAY_SHORT_INDEX_SCALE", type := .int, accessFlags := 25, slot := 5, constantValue := 0 }, { name := "LOG2_ARRAY_INT_INDEX_SCALE", type := .int, accessFlags := 25, slot := 6, constantValue := 0 }, { name := "LOG2_ARRAY_LONG_INDEX_SCALE", type := .int, accessFlags := 25, slot := 7, constantValue := 0 }, { name := "LOG2_ARRAY_FLOAT_INDEX_SCALE", type := .int, accessFlags := 25, slot := 8, constantValue := 0 }, { name := "LOG2_ARRAY_DOUBLE_INDEX_SCALE", type := .int, accessFlags := 25, slot := 9, constantValue := 0 }, { name := "LOG2_BYTE_BIT_SIZE", type := .int, accessFlags := 26, slot := 10, constantValue := 0 }, { name := "T_BOOLEAN", type := .int, accessFlags := 25, slot := 11, constantValue := 0 }, { name := "T_CHAR", type := .int, accessFlags := 25, slot := 12, constantValue := 0 }, { name := "T_FLOAT", type := .int, accessFlags := 25, slot := 13, constantValue := 0 }, { name := "T_DOUBLE", type := .int, accessFlags := 25, slot := 14, constantValue := 0 }, { name := "T_BYTE", type := .int, accessFlags := 25, slot := 15, constantValue := 0 }, { name := "T_SHORT", type := .int, accessFlags := 25, slot := 16, constantValue := 0 }, { name := "T_INT", type := .int, accessFlags := 25, slot := 17, constantValue := 0 }, { name := "T_LONG", type := .int, accessFlags := 25, slot := 18, constantValue := 0 }, { name := "JLA", type := (.object "jdk/internal/access/JavaLangAccess"), accessFlags := 26, slot := 19, constantValue := 0 }, { name := "SOFT_MAX_ARRAY_LENGTH", type := .int, accessFlags := 25, slot := 20, constantValue := 0 }]
  methods := #[k13m0]
  instanceTypes := #[]
  staticTypes := #[(.object "jdk/internal/misc/Unsafe"), .boolean, .int, .int, .int, .int, .int, .int, .int, .int, .int, .int, .int, .int, .int, .int, .int, .int, .int, (.object "jdk/internal/access/JavaLangAccess"), .int]
  resolved := Array.replicate 378 none
  statics := none }

def pool14 : Array CpInfo := pool [(1, u "java/lang/Cloneable"), (0, .class_ 1), (0, u "java/lang/Object"), (0, .class_ 3)] 3

/-- java/lang/Cloneable -/
def k14 : Class := { plain "java/lang/Cloneable" (some 0) with
  accessFlags := 1537
  interfaces := #[]
  cf := some (fileOf pool14 2 #[] #[] 1537 4 #[] #[])
  fields := #[]
  methods := #[]
  instanceTypes := #[]
  staticTypes := #[]
  resolved := Array.replicate 8 none
  statics := none }

/-- the primitive byte -/
def k15 : Class := { plain "byte" none with kind := .primitive 'B', accessFlags := 0x411 }
/-- [B -/
def k16 : Class := { plain "[B" (some 0) with kind := .array 15 .byte, interfaces := #[14, 2], accessFlags := 1041 }

/-- the primitive char -/
def k17 : Class := { plain "char" none with kind := .primitive 'C', accessFlags := 0x411 }
/-- [C -/
def k18 : Class := { plain "[C" (some 0) with kind := .array 17 .char, interfaces := #[14, 2], accessFlags := 1041 }

/-- the primitive int -/
def k19 : Class := { plain "int" none with kind := .primitive 'I', accessFlags := 0x411 }
/-- [I -/
def k20 : Class := { plain "[I" (some 0) with kind := .array 19 .int, interfaces := #[14, 2], accessFlags := 1041 }

def heap : Heap := #[{ cls := 7, slots := #[.long 0, .int 1, .null, .int 0, .null, .int 0, .int 0], vm := .statics 7 },
  { cls := 9, slots := #[.int 0, .int 8, .int 0, .int 1], vm := .statics 9 },
  { cls := 12, slots := #[.null, .null, .null], vm := .statics 12 }]
def classes : Array Class := #[k0, k1, k2, k3, k4, k5, k6, k7, k8, k9, k10, k11, k12, k13, k14, k15, k16, k17, k18, k19, k20]
def interned : List (Array UInt16 × Addr) := []
def slotsUsed : Nat := 14
def theMethod : MethodId := ⟨1, 1⟩
def args0 : Array Value := #[.int 2, .int 65, .int 66, .int 67]
def aboutOver (below : List Frame) : State where
  vm := { classes := classes, interned := interned.toArray }
  heap := heap
  slotsUsed := slotsUsed
  threads := #[{ frames := .invoking theMethod args0 :: below }]
def below0 : List Frame := [.native { method := ⟨0, 0⟩, args := #[] }]
def about1 : State := aboutOver below0
def p0 : Program := .bare "" "" ""
def e0 : Env := launch0.env 0 0 0
theorem w_frames : about1.frames = Frame.invoking theMethod args0 :: below0 := rfl
set_option maxRecDepth 65536 in
theorem w_args : argsFit about1.vm theMethod args0 = true := by decide +kernel
set_option maxRecDepth 65536 in
theorem w_heap : heapFits about1 = true := by decide +kernel
set_option maxRecDepth 65536 in
theorem w_runnable : about1.curStatus? = some .runnable := by decide +kernel
set_option maxRecDepth 65536 in
theorem w_alone : about1.alone = true := by decide +kernel
set_option maxRecDepth 65536 in
theorem w_named : about1.methodNamed? x = some theMethod := by decide +kernel
set_option maxRecDepth 65536 in
theorem w_hears : about1.hears theMethod below0 = true := by decide +kernel
set_option maxRecDepth 65536 in
theorem w_ripe : about1.ripe theMethod args0 below0 = true := by decide +kernel
theorem w_running : about1.status = .running := rfl
set_option maxRecDepth 65536 in
theorem w_room : about1.hasRoom e0.platform room_1 = true :=
  launch0.hasRoom_least _ room_1 (by decide +kernel) (by decide +kernel) (by decide +kernel) (by decide +kernel) (by decide +kernel) (by decide +kernel)
theorem allAtoms_all (ts : List Jvm.Cond) (a : Array Jvm.Value) (st : Jvm.State) : (allAtoms ts).before a st = ts.all (fun c => c.before a st) := by
  induction ts with
  | nil => rfl
  | cons c t ih =>
    show (Jvm.Cond.and c (allAtoms t)).before a st = _
    rw [Jvm.Cond.before_and, ih, List.all_cons]
def words1 : List Jvm.Cond := Jvm.Cond.code x code maxLocals ret :: tables_1
/-- a 'code' word, met by the world's own term for the bytes: nothing is compared byte by byte -/
theorem code_word {y : MethodName} {bytes : ByteArray} {mx : Nat} {rt : Option FieldType} {a : Array Value} {s : State} {m : MethodId} {meth : Method} {c : Code} (h1 : s.methodNamed? y = some m) (h2 : s.vm.method? m = some meth) (h3 : meth.code = some c) (h4 : c.code = bytes)
    (h5 : (c.maxLocals == mx && c.exceptionTable.isEmpty && decide (c.maxStack ≤ mostOperands) && decide (meth.sig.returnType = rt) && !meth.locks && decide (parseMethodDescriptor y.desc = some meth.sig)) = true) : (Jvm.Cond.code y bytes mx rt).before a s = true := by
  simp only [Bool.and_eq_true, beq_iff_eq, Bool.not_eq_true', decide_eq_true_eq] at h5
  obtain ⟨⟨⟨⟨⟨g1, g2⟩, g3⟩, g4⟩, g5⟩, g6⟩ := h5
  simp [Cond.before, Cond.holds, Cond.value, h1, h2, h3, h4, g1, g2, g3, g4, g5, g6]
def isCode : Jvm.Cond → Bool
  | .code _ _ _ _ => true
  | _ => false
theorem all_split {L : List Jvm.Cond} {P : Jvm.Cond → Bool} (h1 : L.all (fun c => isCode c || P c) = true) (h2 : ∀ c ∈ L.filter isCode, P c = true) : L.all P = true := by
  refine List.all_eq_true.mpr fun c hc => ?_
  have h := List.all_eq_true.mp h1 c hc
  rcases Bool.eq_false_or_eq_true (isCode c) with hi | hi
  · exact h2 c (List.mem_filter.mpr ⟨hc, hi⟩)
  · simpa [hi] using h
set_option maxRecDepth 65536 in
theorem w_c0 : (Jvm.Cond.code x code maxLocals ret).before args0 about1 = true := code_word (m := ⟨1, 1⟩) (meth := k1m1) (c := k1c1) (by decide +kernel) rfl rfl rfl (by decide +kernel)
set_option maxRecDepth 65536 in
theorem w_c1 : (Jvm.Cond.code ({ cls := "com/example/soapwright/soapwright/envelope/XmlTextFirstUnwritablePinLaw", name := "draw", desc := "(I)C" } : Jvm.MethodName) method_3_code (3 : Nat) (Option.some Jvm.ClassFile.FieldType.char)).before args0 about1 = true := code_word (m := ⟨1, 2⟩) (meth := k1m2) (c := k1c2) (by decide +kernel) rfl rfl rfl (by decide +kernel)
set_option maxRecDepth 65536 in
theorem w_c2 : (Jvm.Cond.code ({ cls := "java/lang/String", name := "<init>", desc := "([C)V" } : Jvm.MethodName) jdk_42_method_3_code (2 : Nat) (Option.none : Option Jvm.ClassFile.FieldType)).before args0 about1 = true := code_word (m := ⟨7, 1⟩) (meth := k7m1) (c := k7c1) (by decide +kernel) rfl rfl rfl (by decide +kernel)
set_option maxRecDepth 65536 in
theorem w_c3 : (Jvm.Cond.code ({ cls := "java/lang/String", name := "<init>", desc := "([CIILjava/lang/Void;)V" } : Jvm.MethodName) jdk_42_method_149_code (6 : Nat) (Option.none : Option Jvm.ClassFile.FieldType)).before args0 about1 = true := code_word (m := ⟨7, 4⟩) (meth := k7m4) (c := k7c4) (by decide +kernel) rfl rfl rfl (by decide +kernel)
set_option maxRecDepth 65536 in
theorem w_c4 : (Jvm.Cond.code ({ cls := "java/lang/Object", name := "<init>", desc := "()V" } : Jvm.MethodName) object_method_1_code (1 : Nat) (Option.none : Option Jvm.ClassFile.FieldType)).before args0 about1 = true := code_word (m := ⟨0, 0⟩) (meth := k0m0) (c := k0c0) (by decide +kernel) rfl rfl rfl (by decide +kernel)
set_option maxRecDepth 65536 in
theorem w_c5 : (Jvm.Cond.code ({ cls := "com/example/soapwright/soapwright/envelope/XmlText", name := "firstUnwritable", desc := "(Ljava/lang/CharSequence;)I" } : Jvm.MethodName) prog_23_method_2_code (3 : Nat) (Option.some Jvm.ClassFile.FieldType.int)).before args0 about1 = true := code_word (m := ⟨8, 1⟩) (meth := k8m1) (c := k8c1) (by decide +kernel) rfl rfl rfl (by decide +kernel)
set_option maxRecDepth 65536 in
theorem w_c6 : (Jvm.Cond.code ({ cls := "java/lang/String", name := "length", desc := "()I" } : Jvm.MethodName) jdk_42_method_54_code (1 : Nat) (Option.some Jvm.ClassFile.FieldType.int)).before args0 about1 = true := code_word (m := ⟨7, 2⟩) (meth := k7m2) (c := k7c2) (by decide +kernel) rfl rfl rfl (by decide +kernel)
set_option maxRecDepth 65536 in
theorem w_c7 : (Jvm.Cond.code ({ cls := "java/lang/String", name := "coder", desc := "()B" } : Jvm.MethodName) jdk_42_method_152_code (1 : Nat) (Option.some Jvm.ClassFile.FieldType.byte)).before args0 about1 = true := code_word (m := ⟨7, 5⟩) (meth := k7m5) (c := k7c5) (by decide +kernel) rfl rfl rfl (by decide +kernel)
set_option maxRecDepth 65536 in
theorem w_c8 : (Jvm.Cond.code ({ cls := "com/example/soapwright/soapwright/envelope/XmlTextFirstUnwritablePinLaw", name := "ref", desc := "([CI)I" } : Jvm.MethodName) method_6_code (4 : Nat) (Option.some Jvm.ClassFile.FieldType.int)).before args0 about1 = true := code_word (m := ⟨1, 5⟩) (meth := k1m5) (c := k1c5) (by decide +kernel) rfl rfl rfl (by decide +kernel)
set_option maxRecDepth 65536 in
theorem w_c9 : (Jvm.Cond.code ({ cls := "java/lang/StringUTF16", name := "compress", desc := "([CII)[B" } : Jvm.MethodName) jdk_52_method_16_code (6 : Nat) (Option.some (Jvm.ClassFile.FieldType.array Jvm.ClassFile.FieldType.byte))).before args0 about1 = true := code_word (m := ⟨9, 8⟩) (meth := k9m8) (c := k9c8) (by decide +kernel) rfl rfl rfl (by decide +kernel)
set_option maxRecDepth 65536 in
theorem w_c10 : (Jvm.Cond.code ({ cls := "java/lang/StringUTF16", name := "compress", desc := "([CI[BII)I" } : Jvm.MethodName) jdk_52_method_21_code (7 : Nat) (Option.some Jvm.ClassFile.FieldType.int)).before args0 about1 = true := code_word (m := ⟨9, 9⟩) (meth := k9m9) (c := k9c9) (by decide +kernel) rfl rfl rfl (by decide +kernel)
set_option maxRecDepth 65536 in
theorem w_c11 : (Jvm.Cond.code ({ cls := "java/lang/StringUTF16", name := "coderFromArrayLen", desc := "([BI)B" } : Jvm.MethodName) jdk_52_method_15_code (2 : Nat) (Option.some Jvm.ClassFile.FieldType.byte)).before args0 about1 = true := code_word (m := ⟨9, 7⟩) (meth := k9m7) (c := k9c7) (by decide +kernel) rfl rfl rfl (by decide +kernel)
set_option maxRecDepth 65536 in
theorem w_c12 : (Jvm.Cond.code ({ cls := "java/lang/Character", name := "codePointAt", desc := "(Ljava/lang/CharSequence;I)I" } : Jvm.MethodName) jdk_89_method_20_code (4 : Nat) (Option.some Jvm.ClassFile.FieldType.int)).before args0 about1 = true := code_word (m := ⟨10, 4⟩) (meth := k10m4) (c := k10c4) (by decide +kernel) rfl rfl rfl (by decide +kernel)
set_option maxRecDepth 65536 in
theorem w_c13 : (Jvm.Cond.code ({ cls := "java/lang/String", name := "charAt", desc := "(I)C" } : Jvm.MethodName) jdk_42_method_56_code (2 : Nat) (Option.some Jvm.ClassFile.FieldType.char)).before args0 about1 = true := code_word (m := ⟨7, 3⟩) (meth := k7m3) (c := k7c3) (by decide +kernel) rfl rfl rfl (by decide +kernel)
set_option maxRecDepth 65536 in
theorem w_c14 : (Jvm.Cond.code ({ cls := "java/lang/String", name := "isLatin1", desc := "()Z" } : Jvm.MethodName) jdk_42_method_154_code (1 : Nat) (Option.some Jvm.ClassFile.FieldType.boolean)).before args0 about1 = true := code_word (m := ⟨7, 6⟩) (meth := k7m6) (c := k7c6) (by decide +kernel) rfl rfl rfl (by decide +kernel)
set_option maxRecDepth 65536 in
theorem w_c15 : (Jvm.Cond.code ({ cls := "java/lang/StringLatin1", name := "charAt", desc := "([BI)C" } : Jvm.MethodName) jdk_43_method_2_code (2 : Nat) (Option.some Jvm.ClassFile.FieldType.char)).before args0 about1 = true := code_word (m := ⟨11, 1⟩) (meth := k11m1) (c := k11c1) (by decide +kernel) rfl rfl rfl (by decide +kernel)
set_option maxRecDepth 65536 in
theorem w_c16 : (Jvm.Cond.code ({ cls := "java/lang/String", name := "checkIndex", desc := "(II)V" } : Jvm.MethodName) jdk_42_method_155_code (2 : Nat) (Option.none : Option Jvm.ClassFile.FieldType)).before args0 about1 = true := code_word (m := ⟨7, 7⟩) (meth := k7m7) (c := k7c7) (by decide +kernel) rfl rfl rfl (by decide +kernel)
set_option maxRecDepth 65536 in
theorem w_c17 : (Jvm.Cond.code ({ cls := "jdk/internal/util/Preconditions", name := "checkIndex", desc := "(IILjava/util/function/BiFunction;)I" } : Jvm.MethodName) jdk_41_method_11_code (3 : Nat) (Option.some Jvm.ClassFile.FieldType.int)).before args0 about1 = true := code_word (m := ⟨12, 1⟩) (meth := k12m1) (c := k12c1) (by decide +kernel) rfl rfl rfl (by decide +kernel)
set_option maxRecDepth 65536 in
theorem w_c18 : (Jvm.Cond.code ({ cls := "java/lang/Character", name := "isHighSurrogate", desc := "(C)Z" } : Jvm.MethodName) jdk_89_method_14_code (1 : Nat) (Option.some Jvm.ClassFile.FieldType.boolean)).before args0 about1 = true := code_word (m := ⟨10, 0⟩) (meth := k10m0) (c := k10c0) (by decide +kernel) rfl rfl rfl (by decide +kernel)
set_option maxRecDepth 65536 in
theorem w_c19 : (Jvm.Cond.code ({ cls := "com/example/soapwright/soapwright/envelope/XmlText", name := "isXmlCharacter", desc := "(I)Z" } : Jvm.MethodName) prog_23_method_4_code (1 : Nat) (Option.some Jvm.ClassFile.FieldType.boolean)).before args0 about1 = true := code_word (m := ⟨8, 2⟩) (meth := k8m2) (c := k8c2) (by decide +kernel) rfl rfl rfl (by decide +kernel)
set_option maxRecDepth 65536 in
theorem w_c20 : (Jvm.Cond.code ({ cls := "java/lang/Character", name := "charCount", desc := "(I)I" } : Jvm.MethodName) jdk_89_method_18_code (1 : Nat) (Option.some Jvm.ClassFile.FieldType.int)).before args0 about1 = true := code_word (m := ⟨10, 2⟩) (meth := k10m2) (c := k10c2) (by decide +kernel) rfl rfl rfl (by decide +kernel)
set_option maxRecDepth 65536 in
theorem w_c21 : (Jvm.Cond.code ({ cls := "com/example/soapwright/soapwright/envelope/XmlTextFirstUnwritablePinLaw", name := "step", desc := "([CII)I" } : Jvm.MethodName) method_5_code (4 : Nat) (Option.some Jvm.ClassFile.FieldType.int)).before args0 about1 = true := code_word (m := ⟨1, 4⟩) (meth := k1m4) (c := k1c4) (by decide +kernel) rfl rfl rfl (by decide +kernel)
set_option maxRecDepth 65536 in
theorem w_c22 : (Jvm.Cond.code ({ cls := "com/example/soapwright/soapwright/envelope/XmlTextFirstUnwritablePinLaw", name := "ok", desc := "(C)Z" } : Jvm.MethodName) method_4_code (1 : Nat) (Option.some Jvm.ClassFile.FieldType.boolean)).before args0 about1 = true := code_word (m := ⟨1, 3⟩) (meth := k1m3) (c := k1c3) (by decide +kernel) rfl rfl rfl (by decide +kernel)
set_option maxRecDepth 65536 in
theorem w_c23 : (Jvm.Cond.code ({ cls := "java/lang/StringUTF16", name := "toBytes", desc := "([CII)[B" } : Jvm.MethodName) jdk_52_method_14_code (5 : Nat) (Option.some (Jvm.ClassFile.FieldType.array Jvm.ClassFile.FieldType.byte))).before args0 about1 = true := code_word (m := ⟨9, 6⟩) (meth := k9m6) (c := k9c6) (by decide +kernel) rfl rfl rfl (by decide +kernel)
set_option maxRecDepth 65536 in
theorem w_c24 : (Jvm.Cond.code ({ cls := "java/lang/StringUTF16", name := "newBytesFor", desc := "(I)[B" } : Jvm.MethodName) jdk_52_method_2_code (1 : Nat) (Option.some (Jvm.ClassFile.FieldType.array Jvm.ClassFile.FieldType.byte))).before args0 about1 = true := code_word (m := ⟨9, 1⟩) (meth := k9m1) (c := k9c1) (by decide +kernel) rfl rfl rfl (by decide +kernel)
set_option maxRecDepth 65536 in
theorem w_c25 : (Jvm.Cond.code ({ cls := "java/lang/StringUTF16", name := "newBytesLength", desc := "(I)I" } : Jvm.MethodName) jdk_52_method_3_code (1 : Nat) (Option.some Jvm.ClassFile.FieldType.int)).before args0 about1 = true := code_word (m := ⟨9, 2⟩) (meth := k9m2) (c := k9c2) (by decide +kernel) rfl rfl rfl (by decide +kernel)
set_option maxRecDepth 65536 in
theorem w_c26 : (Jvm.Cond.code ({ cls := "java/lang/StringUTF16", name := "putChar", desc := "([BII)V" } : Jvm.MethodName) jdk_52_method_4_code (3 : Nat) (Option.none : Option Jvm.ClassFile.FieldType)).before args0 about1 = true := code_word (m := ⟨9, 3⟩) (meth := k9m3) (c := k9c3) (by decide +kernel) rfl rfl rfl (by decide +kernel)
set_option maxRecDepth 65536 in
theorem w_c27 : (Jvm.Cond.code ({ cls := "java/lang/StringUTF16", name := "getChar", desc := "([BI)C" } : Jvm.MethodName) jdk_52_method_5_code (2 : Nat) (Option.some Jvm.ClassFile.FieldType.char)).before args0 about1 = true := code_word (m := ⟨9, 4⟩) (meth := k9m4) (c := k9c4) (by decide +kernel) rfl rfl rfl (by decide +kernel)
set_option maxRecDepth 65536 in
theorem w_c28 : (Jvm.Cond.code ({ cls := "java/lang/StringUTF16", name := "charAt", desc := "([BI)C" } : Jvm.MethodName) jdk_52_method_83_code (2 : Nat) (Option.some Jvm.ClassFile.FieldType.char)).before args0 about1 = true := code_word (m := ⟨9, 10⟩) (meth := k9m10) (c := k9c10) (by decide +kernel) rfl rfl rfl (by decide +kernel)
set_option maxRecDepth 65536 in
theorem w_c29 : (Jvm.Cond.code ({ cls := "java/lang/StringUTF16", name := "checkIndex", desc := "(I[B)V" } : Jvm.MethodName) jdk_52_method_91_code (2 : Nat) (Option.none : Option Jvm.ClassFile.FieldType)).before args0 about1 = true := code_word (m := ⟨9, 11⟩) (meth := k9m11) (c := k9c11) (by decide +kernel) rfl rfl rfl (by decide +kernel)
set_option maxRecDepth 65536 in
theorem w_c30 : (Jvm.Cond.code ({ cls := "java/lang/StringUTF16", name := "length", desc := "([B)I" } : Jvm.MethodName) jdk_52_method_6_code (1 : Nat) (Option.some Jvm.ClassFile.FieldType.int)).before args0 about1 = true := code_word (m := ⟨9, 5⟩) (meth := k9m5) (c := k9c5) (by decide +kernel) rfl rfl rfl (by decide +kernel)
set_option maxRecDepth 65536 in
theorem w_c31 : (Jvm.Cond.code ({ cls := "java/lang/Character", name := "isLowSurrogate", desc := "(C)Z" } : Jvm.MethodName) jdk_89_method_15_code (1 : Nat) (Option.some Jvm.ClassFile.FieldType.boolean)).before args0 about1 = true := code_word (m := ⟨10, 1⟩) (meth := k10m1) (c := k10c1) (by decide +kernel) rfl rfl rfl (by decide +kernel)
set_option maxRecDepth 65536 in
theorem w_c32 : (Jvm.Cond.code ({ cls := "java/lang/Character", name := "toCodePoint", desc := "(CC)I" } : Jvm.MethodName) jdk_89_method_19_code (2 : Nat) (Option.some Jvm.ClassFile.FieldType.int)).before args0 about1 = true := code_word (m := ⟨10, 3⟩) (meth := k10m3) (c := k10c3) (by decide +kernel) rfl rfl rfl (by decide +kernel)
def codes1 : List Jvm.Cond := [Jvm.Cond.code x code maxLocals ret, Jvm.Cond.code ({ cls := "com/example/soapwright/soapwright/envelope/XmlTextFirstUnwritablePinLaw", name := "draw", desc := "(I)C" } : Jvm.MethodName) method_3_code (3 : Nat) (Option.some Jvm.ClassFile.FieldType.char), Jvm.Cond.code ({ cls := "java/lang/String", name := "<init>", desc := "([C)V" } : Jvm.MethodName) jdk_42_method_3_code (2 : Nat) (Option.none : Option Jvm.ClassFile.FieldType), Jvm.Cond.code ({ cls := "java/lang/String", name := "<init>", desc := "([CIILjava/lang/Void;)V" } : Jvm.MethodName) jdk_42_method_149_code (6 : Nat) (Option.none : Option Jvm.ClassFile.FieldType), Jvm.Cond.code ({ cls := "java/lang/Object", name := "<init>", desc := "()V" } : Jvm.MethodName) object_method_1_code (1 : Nat) (Option.none : Option Jvm.ClassFile.FieldType), Jvm.Cond.code ({ cls := "com/example/soapwright/soapwright/envelope/XmlText", name := "firstUnwritable", desc := "(Ljava/lang/CharSequence;)I" } : Jvm.MethodName) prog_23_method_2_code (3 : Nat) (Option.some Jvm.ClassFile.FieldType.int), Jvm.Cond.code ({ cls := "java/lang/String", name := "length", desc := "()I" } : Jvm.MethodName) jdk_42_method_54_code (1 : Nat) (Option.some Jvm.ClassFile.FieldType.int), Jvm.Cond.code ({ cls := "java/lang/String", name := "coder", desc := "()B" } : Jvm.MethodName) jdk_42_method_152_code (1 : Nat) (Option.some Jvm.ClassFile.FieldType.byte), Jvm.Cond.code ({ cls := "com/example/soapwright/soapwright/envelope/XmlTextFirstUnwritablePinLaw", name := "ref", desc := "([CI)I" } : Jvm.MethodName) method_6_code (4 : Nat) (Option.some Jvm.ClassFile.FieldType.int), Jvm.Cond.code ({ cls := "java/lang/StringUTF16", name := "compress", desc := "([CII)[B" } : Jvm.MethodName) jdk_52_method_16_code (6 : Nat) (Option.some (Jvm.ClassFile.FieldType.array Jvm.ClassFile.FieldType.byte)), Jvm.Cond.code ({ cls := "java/lang/StringUTF16", name := "compress", desc := "([CI[BII)I" } : Jvm.MethodName) jdk_52_method_21_code (7 : Nat) (Option.some Jvm.ClassFile.FieldType.int), Jvm.Cond.code ({ cls := "java/lang/StringUTF16", name := "coderFromArrayLen", desc := "([BI)B" } : Jvm.MethodName) jdk_52_method_15_code (2 : Nat) (Option.some Jvm.ClassFile.FieldType.byte), Jvm.Cond.code ({ cls := "java/lang/Character", name := "codePointAt", desc := "(Ljava/lang/CharSequence;I)I" } : Jvm.MethodName) jdk_89_method_20_code (4 : Nat) (Option.some Jvm.ClassFile.FieldType.int), Jvm.Cond.code ({ cls := "java/lang/String", name := "charAt", desc := "(I)C" } : Jvm.MethodName) jdk_42_method_56_code (2 : Nat) (Option.some Jvm.ClassFile.FieldType.char), Jvm.Cond.code ({ cls := "java/lang/String", name := "isLatin1", desc := "()Z" } : Jvm.MethodName) jdk_42_method_154_code (1 : Nat) (Option.some Jvm.ClassFile.FieldType.boolean), Jvm.Cond.code ({ cls := "java/lang/StringLatin1", name := "charAt", desc := "([BI)C" } : Jvm.MethodName) jdk_43_method_2_code (2 : Nat) (Option.some Jvm.ClassFile.FieldType.char), Jvm.Cond.code ({ cls := "java/lang/String", name := "checkIndex", desc := "(II)V" } : Jvm.MethodName) jdk_42_method_155_code (2 : Nat) (Option.none : Option Jvm.ClassFile.FieldType), Jvm.Cond.code ({ cls := "jdk/internal/util/Preconditions", name := "checkIndex", desc := "(IILjava/util/function/BiFunction;)I" } : Jvm.MethodName) jdk_41_method_11_code (3 : Nat) (Option.some Jvm.ClassFile.FieldType.int), Jvm.Cond.code ({ cls := "java/lang/Character", name := "isHighSurrogate", desc := "(C)Z" } : Jvm.MethodName) jdk_89_method_14_code (1 : Nat) (Option.some Jvm.ClassFile.FieldType.boolean), Jvm.Cond.code ({ cls := "com/example/soapwright/soapwright/envelope/XmlText", name := "isXmlCharacter", desc := "(I)Z" } : Jvm.MethodName) prog_23_method_4_code (1 : Nat) (Option.some Jvm.ClassFile.FieldType.boolean), Jvm.Cond.code ({ cls := "java/lang/Character", name := "charCount", desc := "(I)I" } : Jvm.MethodName) jdk_89_method_18_code (1 : Nat) (Option.some Jvm.ClassFile.FieldType.int), Jvm.Cond.code ({ cls := "com/example/soapwright/soapwright/envelope/XmlTextFirstUnwritablePinLaw", name := "step", desc := "([CII)I" } : Jvm.MethodName) method_5_code (4 : Nat) (Option.some Jvm.ClassFile.FieldType.int), Jvm.Cond.code ({ cls := "com/example/soapwright/soapwright/envelope/XmlTextFirstUnwritablePinLaw", name := "ok", desc := "(C)Z" } : Jvm.MethodName) method_4_code (1 : Nat) (Option.some Jvm.ClassFile.FieldType.boolean), Jvm.Cond.code ({ cls := "java/lang/StringUTF16", name := "toBytes", desc := "([CII)[B" } : Jvm.MethodName) jdk_52_method_14_code (5 : Nat) (Option.some (Jvm.ClassFile.FieldType.array Jvm.ClassFile.FieldType.byte)), Jvm.Cond.code ({ cls := "java/lang/StringUTF16", name := "newBytesFor", desc := "(I)[B" } : Jvm.MethodName) jdk_52_method_2_code (1 : Nat) (Option.some (Jvm.ClassFile.FieldType.array Jvm.ClassFile.FieldType.byte)), Jvm.Cond.code ({ cls := "java/lang/StringUTF16", name := "newBytesLength", desc := "(I)I" } : Jvm.MethodName) jdk_52_method_3_code (1 : Nat) (Option.some Jvm.ClassFile.FieldType.int), Jvm.Cond.code ({ cls := "java/lang/StringUTF16", name := "putChar", desc := "([BII)V" } : Jvm.MethodName) jdk_52_method_4_code (3 : Nat) (Option.none : Option Jvm.ClassFile.FieldType), Jvm.Cond.code ({ cls := "java/lang/StringUTF16", name := "getChar", desc := "([BI)C" } : Jvm.MethodName) jdk_52_method_5_code (2 : Nat) (Option.some Jvm.ClassFile.FieldType.char), Jvm.Cond.code ({ cls := "java/lang/StringUTF16", name := "charAt", desc := "([BI)C" } : Jvm.MethodName) jdk_52_method_83_code (2 : Nat) (Option.some Jvm.ClassFile.FieldType.char), Jvm.Cond.code ({ cls := "java/lang/StringUTF16", name := "checkIndex", desc := "(I[B)V" } : Jvm.MethodName) jdk_52_method_91_code (2 : Nat) (Option.none : Option Jvm.ClassFile.FieldType), Jvm.Cond.code ({ cls := "java/lang/StringUTF16", name := "length", desc := "([B)I" } : Jvm.MethodName) jdk_52_method_6_code (1 : Nat) (Option.some Jvm.ClassFile.FieldType.int), Jvm.Cond.code ({ cls := "java/lang/Character", name := "isLowSurrogate", desc := "(C)Z" } : Jvm.MethodName) jdk_89_method_15_code (1 : Nat) (Option.some Jvm.ClassFile.FieldType.boolean), Jvm.Cond.code ({ cls := "java/lang/Character", name := "toCodePoint", desc := "(CC)I" } : Jvm.MethodName) jdk_89_method_19_code (2 : Nat) (Option.some Jvm.ClassFile.FieldType.int)]
set_option maxRecDepth 65536 in
theorem codes_eq : words1.filter isCode = codes1 := rfl
theorem w_codes : ∀ c ∈ words1.filter isCode, c.before args0 about1 = true := by
  rw [codes_eq]
  intro c hc
  simp only [codes1, List.mem_cons, List.not_mem_nil, or_false] at hc
  rcases hc with rfl | rfl | rfl | rfl | rfl | rfl | rfl | rfl | rfl | rfl | rfl | rfl | rfl | rfl | rfl | rfl | rfl | rfl | rfl | rfl | rfl | rfl | rfl | rfl | rfl | rfl | rfl | rfl | rfl | rfl | rfl | rfl | rfl
  · exact w_c0
  · exact w_c1
  · exact w_c2
  · exact w_c3
  · exact w_c4
  · exact w_c5
  · exact w_c6
  · exact w_c7
  · exact w_c8
  · exact w_c9
  · exact w_c10
  · exact w_c11
  · exact w_c12
  · exact w_c13
  · exact w_c14
  · exact w_c15
  · exact w_c16
  · exact w_c17
  · exact w_c18
  · exact w_c19
  · exact w_c20
  · exact w_c21
  · exact w_c22
  · exact w_c23
  · exact w_c24
  · exact w_c25
  · exact w_c26
  · exact w_c27
  · exact w_c28
  · exact w_c29
  · exact w_c30
  · exact w_c31
  · exact w_c32
set_option maxRecDepth 65536 in
theorem w_t1 : (words1.take 24).all (fun c => isCode c || c.before args0 about1) = true := by decide +kernel
set_option maxRecDepth 65536 in
theorem w_t2 : ((words1.drop 24).take 24).all (fun c => isCode c || c.before args0 about1) = true := by decide +kernel
set_option maxRecDepth 65536 in
theorem w_t3 : (((words1.drop 24).drop 24).take 24).all (fun c => isCode c || c.before args0 about1) = true := by decide +kernel
set_option maxRecDepth 65536 in
theorem w_t4 : ((((words1.drop 24).drop 24).drop 24).take 24).all (fun c => isCode c || c.before args0 about1) = true := by decide +kernel
set_option maxRecDepth 65536 in
theorem w_t5 : (((((words1.drop 24).drop 24).drop 24).drop 24).take 24).all (fun c => isCode c || c.before args0 about1) = true := by decide +kernel
set_option maxRecDepth 65536 in
theorem w_t6 : ((((((words1.drop 24).drop 24).drop 24).drop 24).drop 24).take 24).all (fun c => isCode c || c.before args0 about1) = true := by decide +kernel
set_option maxRecDepth 65536 in
theorem w_t7 : ((((((words1.drop 24).drop 24).drop 24).drop 24).drop 24).drop 24).all (fun c => isCode c || c.before args0 about1) = true := by decide +kernel
theorem w_tables : (allAtoms (Jvm.Cond.code x code maxLocals ret :: tables_1)).before args0 about1 = true := by
  rw [allAtoms_all]
  show words1.all (fun c => c.before args0 about1) = true
  refine all_split ?_ w_codes
  rw [← List.take_append_drop 24 words1, List.all_append, w_t1, ← List.take_append_drop 24 (words1.drop 24), List.all_append, w_t2, ← List.take_append_drop 24 ((words1.drop 24).drop 24), List.all_append, w_t3, ← List.take_append_drop 24 (((words1.drop 24).drop 24).drop 24), List.all_append, w_t4, ← List.take_append_drop 24 ((((words1.drop 24).drop 24).drop 24).drop 24), List.all_append, w_t5, ← List.take_append_drop 24 (((((words1.drop 24).drop 24).drop 24).drop 24).drop 24), List.all_append, w_t6, w_t7]
  rfl
set_option maxRecDepth 65536 in
theorem w_rest : rest_1_c.before args0 about1 = true := by decide +kernel
set_option maxRecDepth 65536 in
theorem w_case : (Jvm.Cond.and given_1 narrow_1).before args0 about1 = true := by decide +kernel
set_option maxRecDepth 65536 in
theorem w_consts : constsHeld consts_1 about1 := Jvm.Lit.constsHeldB_iff.mp (by decide +kernel)
theorem w_applies : (headSpec (Jvm.Cond.code x code maxLocals ret :: tables_1) room_1).applies x e0.platform about1 = true :=
  (Spec.applies_iff w_frames).mpr ⟨w_running, w_runnable, w_alone, w_named, w_hears, w_ripe, w_room, w_tables⟩
theorem atStart : AtStart classFile x code maxLocals ret World_1 tables_1 room_1 Calls_1 rest_1 Pre_1 launch0 p0 e0 about1 theMethod args0 below0 :=
  ⟨lists_1, trivial, launch0.admits_env _ _ _, launch0.least_env, fairChoices_fair.cas, fairChoices_fair.clock, w_frames, w_args, w_heap, w_applies, ⟨w_consts, trivial⟩, w_rest, w_case⟩
end start1
theorem witness_1 : WitnessClaimed_1 := ⟨start1.p0, start1.e0, start1.about1, start1.theMethod, start1.args0, start1.below0, start1.atStart⟩
end Jvm.Pilot.@@N@@
