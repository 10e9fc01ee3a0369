import JvmDerived
import JvmDerived.Pilot.@@N@@Statement
import JvmDerived.Pilot.@@N@@Code
set_option linter.unusedVariables false
set_option linter.unusedSimpArgs false
namespace Jvm.Own
open Sem ClassFile Op Lib Jvm.Stand Jvm.Free Jvm.LawKit Jvm.RoadKit
/-! THE LAYER. A symbolic heap (a list of cells, each described), and W: from here the body runs to its end with what Q says. One law an instruction: what W asks behind it gives W ahead of it. -/
/-- a field: the class that declares it, its name, its descriptor -/
abbrev Fd : Type := String × String × String
/-- a cell: an object (its class; its known fields; what they hold), or an array (its component type; what it holds) -/
abbrev SC : Type := (String × List Fd × List Value) ⊕ (FieldType × List Value)
abbrev obj (C : String) (fs : List Fd) (vs : List Value) : SC := Sum.inl (C, fs, vs)
abbrev arr (t : FieldType) (vs : List Value) : SC := Sum.inr (t, vs)
/-- its address; may the walk write it; what it is -/
abbrev Ent : Type := Addr × Bool × SC
/-- a String constant that has been loaded: its class, its entry, its text, where it lies -/
abbrev LitE : Type := String × Nat × String × Addr
/-- the launch, the case's start, its arguments, is the frame the narrow one -/
abbrev Gx : Type := Launch × State × Array Value × Bool
abbrev Gx.l (G : Gx) : Launch := G.1
abbrev Gx.Z (G : Gx) : State := G.2.1
abbrev Gx.a0 (G : Gx) : Array Value := G.2.2.1
abbrev Gx.nw (G : Gx) : Bool := G.2.2.2
/-- what one invocation has: program, environment, the state at its start, its method .. -/
abbrev Kx : Type := Program × Env × State × MethodId × Array Value × List Frame × Method × Code
abbrev Kx.p (K : Kx) : Program := K.1
abbrev Kx.e (K : Kx) : Env := K.2.1
abbrev Kx.s (K : Kx) : State := K.2.2.1
abbrev Kx.m (K : Kx) : MethodId := K.2.2.2.1
abbrev Kx.args (K : Kx) : Array Value := K.2.2.2.2.1
abbrev Kx.below (K : Kx) : List Frame := K.2.2.2.2.2.1
abbrev Kx.meth (K : Kx) : Method := K.2.2.2.2.2.2.1
abbrev Kx.c (K : Kx) : Code := K.2.2.2.2.2.2.2

/-- the frames beneath are of methods that the tables know, if those of the start are -/
def FK (G : Gx) (fs : List Frame) : Prop := G.Z.vm.MethodsKnown → G.Z.vm.FramesKnown G.Z.frames → G.Z.vm.FramesKnown fs
theorem FK.start {l : Launch} {s : State} {a0 args : Array Value} {b : Bool} {m : MethodId} {below : List Frame} (hf : s.frames = .invoking m args :: below) : FK (l, s, a0, b) below := fun _ hF y hy => hF y (by show y ∈ s.frames; rw [hf]; exact List.mem_cons_of_mem _ hy)
theorem FK.call {G : Gx} {below fs : List Frame} {vm : Vm} {m : MethodId} {meth : Method} {g : JFrame} (h : FK G below) (hal : G.Z.vm.Alike vm) (hm : vm.method? m = some meth) (hg : g.method = m) (e : fs = .java g :: below) : FK G fs := fun hM hF y hy m' hy' => by
  subst e
  rcases List.mem_cons.mp hy with rfl | hy
  · cases hy'
    rw [hg]
    exact hM m meth (by rw [← hal.method?]; exact hm)
  · exact h hM hF y hy m' hy'

/-! ### the symbolic heap -/
def AV (Z : State) (h : Heap) (a : Addr) (w : Bool) (t : FieldType) (vs : List Value) : Prop :=
  ∃ c : Cell, Arr Z h a c t ∧ c.slots.toList = vs ∧ vs.length < 2147483648 ∧ (∀ v ∈ vs, fits t v = true) ∧ (w = true → (∀ C, t = .object C → Ovr Z c.cls C) ∧ (t = .byte → Z.vm.findClass "[B" = some c.cls))
def LaidAll (Z : State) (a0 : Array Value) (C : String) (fs : List Fd) : Prop :=
  (fs.map fun f => f.2.1).Nodup ∧ ∀ f ∈ fs, Laid Z a0 C f.1 f.2.1 f.2.2 ∧ ∃ t, parseFieldDescriptor f.2.2 = some t
theorem LaidAll.cons {Z : State} {a0 : Array Value} {C O n d : String} {t : FieldType} {fs : List Fd} (h : Laid Z a0 C O n d) (ht : parseFieldDescriptor d = some t) (r : ∀ f ∈ fs, Laid Z a0 C f.1 f.2.1 f.2.2 ∧ ∃ t, parseFieldDescriptor f.2.2 = some t) :
    ∀ f ∈ ((O, n, d) : Fd) :: fs, Laid Z a0 C f.1 f.2.1 f.2.2 ∧ ∃ t, parseFieldDescriptor f.2.2 = some t := fun f hf => by
  rcases List.mem_cons.mp hf with rfl | hf
  · exact ⟨h, t, ht⟩
  · exact r f hf
theorem LaidAll.nil {Z : State} {a0 : Array Value} {C : String} : ∀ f ∈ ([] : List Fd), Laid Z a0 C f.1 f.2.1 f.2.2 ∧ ∃ t, parseFieldDescriptor f.2.2 = some t := fun _ hf => nomatch hf
def Des (Z : State) (a0 : Array Value) (h : Heap) (a : Addr) (w : Bool) : SC → Prop
  | .inl (C, fs, vs) => Exa Z h a C ∧ vs.length = fs.length ∧ (∀ (i : Nat) (f : Fd) (v : Value), fs[i]? = some f → vs[i]? = some v → Fld Z h a f.1 f.2.1 f.2.2 v) ∧ (w = true → LaidAll Z a0 C fs ∧ Unt h a)
  | .inr (t, vs) => AV Z h a w t vs
def Sep (As : List Ent) : Prop := (As.map fun e => (e.1, e.2.1)).Pairwise fun p q => p.2 = true ∨ q.2 = true → p.1 ≠ q.1
def Inv (G : Gx) (As : List Ent) (h : Heap) : Prop :=
  Ext G.Z.heap h ∧ Sep As ∧ ∀ e ∈ As, (e.2.1 = true → G.Z.heap.size ≤ e.1) ∧ Des G.Z G.a0 h e.1 e.2.1 e.2.2
def LI (Z : State) (vm : Vm) (Li : List LitE) : Prop := IB Z vm (Li.map fun q => q.2.2.1) ∧ (∀ q ∈ Li, RoadKit.Lit (Z.setVm vm) q.1 q.2.1 q.2.2.2) ∧
  ∀ q ∈ Li, ∀ (units : Array UInt16) (a : Addr), utf16ToString? units = some q.2.2.1 → vm.interned.find? (fun p => p.1 == units) = some (units, a) → (∃ r ∈ Li, r.2.2.1 = q.2.2.1 ∧ r.2.2.2 = a) ∨ Z.vm.interned.find? (fun p => p.1 == units) = some (units, a)

section Heaps
variable {Z : State} {a0 : Array Value} {h h' : Heap} {a b : Addr} {w : Bool} {sc sc' : SC} {As As' : List Ent} {G : Gx} {C O n d : String} {v : Value} {fs : List Fd} {vs vs' : List Value} {t : FieldType}
theorem Fld.cell' (e : ∀ c, h[a]? = some c → h'[a]? = some c) (F : Fld Z h a C n d v) : Fld Z h' a C n d v := by
  obtain ⟨cell, cf, k, i, f, h1, r⟩ := F; exact ⟨cell, cf, k, i, f, e _ h1, r⟩
theorem Exa.cell' (e : ∀ c, h[a]? = some c → h'[a]? = some c) (F : Exa Z h a C) : Exa Z h' a C := by
  obtain ⟨cell, k, h1, r⟩ := F; exact ⟨cell, k, e _ h1, r⟩
theorem Des.cell (e : ∀ c, h[a]? = some c → h'[a]? = some c) (D : Des Z a0 h a w sc) : Des Z a0 h' a w sc := by
  rcases sc with ⟨C, fs, vs⟩ | ⟨t, vs⟩
  · obtain ⟨h1, h2, h3, h4⟩ := D
    exact ⟨Exa.cell' e h1, h2, fun i f v q r => Fld.cell' e (h3 i f v q r), fun hw => ⟨(h4 hw).1, by obtain ⟨c, u1, u2⟩ := (h4 hw).2; exact ⟨c, e _ u1, u2⟩⟩⟩
  · obtain ⟨c, A, r⟩ := D
    exact ⟨c, ⟨e _ A.1, A.2⟩, r⟩
theorem Des.lt (D : Des Z a0 h a w sc) : a < h.size := by
  rcases sc with ⟨C, fs, vs⟩ | ⟨t, vs⟩
  · exact D.1.lt
  · obtain ⟨c, A, -⟩ := D; exact A.lt
theorem Inv.ext (I : Inv G As h) (E : Ext h h') : Inv G As h' :=
  ⟨⟨Nat.le_trans I.1.1 E.1, fun x c q => E.2 x c (I.1.2 x c q)⟩, I.2.1, fun e he => ⟨(I.2.2 e he).1, (I.2.2 e he).2.cell fun c q => E.2 _ c q⟩⟩
theorem Inv.ge (I : Inv G As h) : G.Z.heap.size ≤ h.size := I.1.1
theorem Inv.push (I : Inv G As h) (E : Ext h h') (D : Des G.Z G.a0 h' h.size w sc) : Inv G ((h.size, w, sc) :: As) h' := by
  have J := I.ext E
  refine ⟨J.1, ?_, fun e he => ?_⟩
  · refine List.pairwise_cons.mpr ⟨fun p hp => ?_, I.2.1⟩
    obtain ⟨e, he, rfl⟩ := List.mem_map.mp hp
    exact fun _ => (Nat.ne_of_lt ((I.2.2 e he).2.lt)).symm
  · rcases List.mem_cons.mp he with rfl | he
    · exact ⟨fun _ => I.ge, D⟩
    · exact J.2.2 e he
/-- one cell of the list gets another description -/
def Upd (As : List Ent) (a : Addr) (sc sc' : SC) (As' : List Ent) : Prop := ∃ pre post, As = pre ++ (a, true, sc) :: post ∧ As' = pre ++ (a, true, sc') :: post
theorem Upd.head : Upd ((a, true, sc) :: As) a sc sc' ((a, true, sc') :: As) := ⟨[], As, rfl, rfl⟩
theorem Upd.tail {e : Ent} (u : Upd As a sc sc' As') : Upd (e :: As) a sc sc' (e :: As') := by
  obtain ⟨pre, post, rfl, rfl⟩ := u; exact ⟨e :: pre, post, rfl, rfl⟩
theorem Upd.mem (u : Upd As a sc sc' As') : (a, true, sc) ∈ As := by obtain ⟨pre, post, rfl, rfl⟩ := u; simp
theorem Inv.upd (I : Inv G As h) (u : Upd As a sc sc' As') (k : ∀ b, b ≠ a → ∀ c : Cell, h[b]? = some c → h'[b]? = some c) (hs : h.size ≤ h'.size) (D : Des G.Z G.a0 h' a true sc') : Inv G As' h' := by
  have hm := I.2.2 _ u.mem
  obtain ⟨pre, post, rfl, rfl⟩ := u
  have ha : G.Z.heap.size ≤ a := hm.1 rfl
  have sp := I.2.1
  refine ⟨⟨Nat.le_trans I.1.1 hs, fun x c q => k x (fun e => ?_) c (I.1.2 x c q)⟩, ?_, fun e he => ?_⟩
  · subst e; exact absurd (Array.getElem?_eq_some_iff.mp q).1 (Nat.not_lt.mpr ha)
  · simpa [Sep] using sp
  · simp only [Sep, List.map_append, List.map_cons, List.pairwise_append, List.pairwise_cons] at sp
    rcases List.mem_append.mp he with he | he
    · have q := I.2.2 e (List.mem_append_left _ he)
      refine ⟨q.1, q.2.cell (k _ ?_)⟩
      exact sp.2.2 _ (List.mem_map_of_mem he) (a, true) (List.mem_cons_self ..) (by simp)
    · rcases List.mem_cons.mp he with rfl | he
      · exact ⟨fun _ => ha, D⟩
      · have q := I.2.2 e (List.mem_append_right _ (List.mem_cons_of_mem _ he))
        refine ⟨q.1, q.2.cell (k _ ?_)⟩
        exact (sp.2.1.1 _ (List.mem_map_of_mem he) (by simp)).symm
/-- two places of the list, one of them the walk's own, are two cells -/
theorem Inv.ne (I : Inv G As h) {i j : Nat} {w' : Bool} (hi : As[i]? = some (a, w, sc)) (hj : As[j]? = some (b, w', sc')) (ij : i < j) (hw : w = true ∨ w' = true) : a ≠ b := by
  have sp := I.2.1
  rw [Sep, List.pairwise_iff_getElem] at sp
  obtain ⟨i1, i2⟩ := List.getElem?_eq_some_iff.mp hi
  obtain ⟨j1, j2⟩ := List.getElem?_eq_some_iff.mp hj
  have q := sp i j (by simpa using i1) (by simpa using j1) ij
  simp only [List.getElem_map, i2, j2] at q
  exact q hw
theorem Inv.perm (I : Inv G As h) (q : As.Perm As') : Inv G As' h := by
  refine ⟨I.1, ?_, fun e he => I.2.2 e (q.mem_iff.mpr he)⟩
  exact (q.map _).pairwise I.2.1 (fun {x y} r s => (r (s.symm)).symm)
theorem Inv.drop (I : Inv G As h) (q : As'.Sublist As) : Inv G As' h :=
  ⟨I.1, I.2.1.sublist (q.map _), fun e he => I.2.2 e (q.subset he)⟩
/-! fields by their names -/
def FAt (fs : List Fd) (vs : List Value) (O n d : String) (v : Value) : Prop := ∃ i : Nat, fs[i]? = some (O, n, d) ∧ vs[i]? = some v
theorem FAt.head : FAt ((O, n, d) :: fs) (v :: vs) O n d v := ⟨0, rfl, rfl⟩
theorem FAt.tail {f : Fd} {u : Value} (q : FAt fs vs O n d v) : FAt (f :: fs) (u :: vs) O n d v := by obtain ⟨i, h1, h2⟩ := q; exact ⟨i + 1, h1, h2⟩
def FUp (fs : List Fd) (vs : List Value) (O n d : String) (v : Value) (vs' : List Value) : Prop := ∃ i : Nat, fs[i]? = some (O, n, d) ∧ i < vs.length ∧ vs' = vs.set i v
theorem FUp.head {u : Value} : FUp ((O, n, d) :: fs) (u :: vs) O n d v (v :: vs) := ⟨0, rfl, Nat.succ_pos _, rfl⟩
theorem FUp.tail {f : Fd} {u : Value} (q : FUp fs vs O n d v vs') : FUp (f :: fs) (u :: vs) O n d v (u :: vs') := by
  obtain ⟨i, h1, h2, rfl⟩ := q; exact ⟨i + 1, h1, Nat.succ_lt_succ h2, rfl⟩
theorem Inv.fld (I : Inv G As h) (hm : (a, w, obj C fs vs) ∈ As) (q : FAt fs vs O n d v) : Fld G.Z h a O n d v := by
  obtain ⟨i, h1, h2⟩ := q; exact (I.2.2 _ hm).2.2.2.1 i _ v h1 h2
theorem Inv.exa (I : Inv G As h) (hm : (a, w, obj C fs vs) ∈ As) : Exa G.Z h a C := (I.2.2 _ hm).2.1
theorem Inv.av (I : Inv G As h) (hm : (a, w, arr t vs) ∈ As) : AV G.Z h a w t vs := (I.2.2 _ hm).2
theorem Inv.old (I : Inv G As h) : Ext G.Z.heap h := I.1
/-- a field is written -/
theorem Inv.wrF (I : Inv G As h) (u : Upd As a (obj C fs vs) (obj C fs vs') As') (q : FUp fs vs O n d v vs') (W : Wr h h' a (RoadKit.slotOf G.Z O n d) v) : Inv G As' h' := by
  have hm := (I.2.2 _ u.mem).2
  obtain ⟨i, h1, h2, rfl⟩ := q
  obtain ⟨e1, e2, e3, e4⟩ := hm
  have L := (e4 rfl).1
  refine I.upd u (fun b hb c hc => ?_) (Nat.le_of_eq W.size.symm) ⟨e1.wr W, by rw [List.length_set]; exact e2, fun j f x hf hx => ?_, fun _ => ⟨L, (e4 rfl).2.wr W⟩⟩
  · obtain ⟨c', q1, -, -, -, q5, -⟩ := wr_at W hc
    rw [q1, q5 hb]
  · by_cases ij : i = j
    · subst ij
      rw [h1] at hf; cases hf
      rw [List.getElem?_set_self h2] at hx; cases hx
      exact (e3 i _ _ h1 (List.getElem?_eq_getElem h2)).same W
    · rw [List.getElem?_set_ne ij] at hx
      refine (e3 j f x hf hx).other W (Or.inr ?_)
      obtain ⟨L1, t1, p1⟩ := L.2 f (List.mem_of_getElem? hf)
      obtain ⟨L2, t2, p2⟩ := L.2 _ (List.mem_of_getElem? h1)
      refine slot_ne L1 L2 (fun e => ?_) p1 p2
      have nd := L.1
      rw [List.nodup_iff_pairwise_ne, List.pairwise_iff_getElem] at nd
      obtain ⟨i1, i2⟩ := List.getElem?_eq_some_iff.mp h1
      obtain ⟨j1, j2⟩ := List.getElem?_eq_some_iff.mp hf
      rcases Nat.lt_or_gt_of_ne ij with lt | lt
      · have := nd i j (by simpa using i1) (by simpa using j1) lt
        simp only [List.getElem_map, i2, j2] at this
        exact this e.symm
      · have := nd j i (by simpa using j1) (by simpa using i1) lt
        simp only [List.getElem_map, i2, j2] at this
        exact this e
/-- a place of an array is written -/
theorem Inv.wrA (I : Inv G As h) {k : Nat} {c : Cell} (A : Arr G.Z h a c t) (u : Upd As a (arr t vs) (arr t (vs.set k v)) As') (hv : fits t v = true) (W : Wr h h' a k v) : Inv G As' h' := by
  have hm := (I.2.2 _ u.mem).2
  obtain ⟨c', A', e1, e2, e3, e4⟩ := hm
  cases A.1.symm.trans A'.1
  refine I.upd u (fun b hb c hc => ?_) (Nat.le_of_eq W.size.symm) ⟨c.setSlot k v, Arr.same W A, ?_, by rw [List.length_set]; exact e2, fun x hx => ?_, e4⟩
  · obtain ⟨c', q1, -, -, -, q5, -⟩ := wr_at W hc
    rw [q1, q5 hb]
  · rw [← e1]; simp [Cell.setSlot]
  · rcases List.mem_or_eq_of_mem_set hx with hx | rfl
    · exact e3 x hx
    · exact hv
theorem LI.warm {s : State} {vm0 vm1 : Vm} {Li : List LitE} (L : LI Z vm0 Li) (hW : (s.setVm vm0).WarmedH vm1) : LI Z vm1 Li := by
  obtain ⟨⟨more, e, hm⟩, r, t⟩ := L
  have hi : vm1.interned = vm0.interned := hW.interned_eq
  exact ⟨⟨more, hi.trans e, hm⟩, fun q hq => Lit.stays (s := s) (r q hq) hW.wide, fun q hq units a hu hf => t q hq units a hu (by rw [← hi]; exact hf)⟩
end Heaps
end Jvm.Own
namespace Jvm.Own
open Sem ClassFile Op Lib Jvm.Stand Jvm.Free Jvm.LawKit Jvm.RoadKit
abbrev Qx : Type := Option Value → List Ent → List LitE → Prop
/-- the run from t ends: the method returns v, and Q says what lies there then -/
def Fini (G : Gx) (K : Kx) (R : Room) (Q : Qx) (t : State) : Prop :=
  ∃ (U : State) (v : Option Value), Steps K.p.tables K.e K.below t U ∧ U.status = .running ∧ Ended U K.below (.returned v) ∧
    ∃ (L : List Loc) (As : List Ent) (Li : List LitE), Q v As Li ∧ Inv G As U.heap ∧ LI G.Z U.vm Li ∧ Fr G.Z.heap.size L ∧ ReturnedEndW K.s (.returned v) U L R.cells R.slots ∧ (G.nw = true → K.s.WarmedH U.vm)
def Ok (G : Gx) (K : Kx) (y : MethodName) (code : ByteArray) (mL : Nat) (ret : Option FieldType) : Prop :=
  K.p.tables.exec = Jvm.exec ∧ K.c.code = code ∧ K.c.maxLocals = mL ∧ G.Z.Warmed39 K.s.vm ∧ K.s.vm.findClass y.cls = some K.m.cls ∧ K.meth.name = y.name ∧ K.meth.sig.returnType = ret ∧ K.meth.locks = false ∧ K.s.methodNamed? y = some K.m ∧ FK G K.below ∧ Ext G.Z.heap K.s.heap
/-- the body of y stands at pc with these locals and this stack over this symbolic heap: it runs to its end -/
def W (G : Gx) (K : Kx) (y : MethodName) (code : ByteArray) (ret : Option FieldType) (R : Room) (Q : Qx) (As : List Ent) (Li : List LitE) (cells slots pc : Nat) (Ls : List Slot) (st : List Value) : Prop :=
  ∀ (T : State) (vm0 : Vm) (k0 : Nat) (locs : List Loc), Ok G K y code Ls.length ret → Stand K.p G.l K.e R (K.s.setVm vm0) K.m K.args K.below K.meth K.c T locs cells slots →
    K.s.Since vm0 k0 → k0 ≤ T.heap.size → (G.nw = true → K.s.WarmedH vm0) → Inv G As T.heap → LI G.Z vm0 Li → Fr G.Z.heap.size locs → Fini G K R Q (T.setTop (mkF K.m pc Ls.toArray st))
section Laws
variable {G : Gx} {K : Kx} {y : MethodName} {code : ByteArray} {ret : Option FieldType} {R : Room} {Q : Qx} {As As' : List Ent} {Li Li' : List LitE} {cells slots pc pc' : Nat} {Ls Ls' : List Slot} {st st' : List Value}
theorem W.via (hlen : Ls'.length = Ls.length) (n : W G K y code ret R Q As Li cells slots pc' Ls' st')
    (stp : ∀ T : State, At T K.m K.c K.below → K.p.tables.exec = Jvm.exec → K.c.code = code → ∀ target, Steps K.p.tables K.e K.below (T.setTop (mkF K.m pc' Ls'.toArray st')) target → Steps K.p.tables K.e K.below (T.setTop (mkF K.m pc Ls.toArray st)) target) :
    W G K y code ret R Q As Li cells slots pc Ls st := by
  intro T vm0 k0 locs ok X hS hk hN hI hL hF
  obtain ⟨U, v, h1, h2⟩ := n T vm0 k0 locs (hlen ▸ ok) X hS hk hN hI hL hF
  exact ⟨U, v, stp T X.here ok.1 ok.2.1 U h1, h2⟩
theorem W.mono {cells' slots' : Nat} (n : W G K y code ret R Q As Li cells' slots' pc Ls st) (hc : cells ≤ cells') (hs : slots ≤ slots') : W G K y code ret R Q As Li cells slots pc Ls st :=
  fun T vm0 k0 locs ok X hS hk hN hI hL hF => n T vm0 k0 locs ok (X.more hc hs) hS hk hN hI hL hF
theorem W.perm (n : W G K y code ret R Q As' Li cells slots pc Ls st) (q : As.Perm As') : W G K y code ret R Q As Li cells slots pc Ls st :=
  fun T vm0 k0 locs ok X hS hk hN hI hL hF => n T vm0 k0 locs ok X hS hk hN (hI.perm q) hL hF
theorem W.drop (n : W G K y code ret R Q As' Li cells slots pc Ls st) (q : As'.Sublist As) : W G K y code ret R Q As Li cells slots pc Ls st :=
  fun T vm0 k0 locs ok X hS hk hN hI hL hF => n T vm0 k0 locs ok X hS hk hN (hI.drop q) hL hF
theorem W.know (n : ∀ h, Inv G As h → W G K y code ret R Q As Li cells slots pc Ls st) : W G K y code ret R Q As Li cells slots pc Ls st :=
  fun T vm0 k0 locs ok X hS hk hN hI hL hF => n T.heap hI T vm0 k0 locs ok X hS hk hN hI hL hF
theorem W.conseq {Q' : Qx} (n : W G K y code ret R Q' As Li cells slots pc Ls st) (q : ∀ v As Li, Q' v As Li → Q v As Li) : W G K y code ret R Q As Li cells slots pc Ls st := by
  intro T vm0 k0 locs ok X hS hk hN hI hL hF
  obtain ⟨U, v, h1, h2, h3, L, A, I, h4, h5⟩ := n T vm0 k0 locs ok X hS hk hN hI hL hF
  exact ⟨U, v, h1, h2, h3, L, A, I, q _ _ _ h4, h5⟩

theorem W.iloadN {k : Fin 4} {v : Int32} (hd : decode code pc = .ok (.iload_n k, 1)) (hl : Ls[k.val]? = some (.val (.int v))) (n : W G K y code ret R Q As Li cells slots (pc + 1) Ls (.int v :: st)) : W G K y code ret R Q As Li cells slots pc Ls st :=
  W.via rfl n fun T h hx hby tg hr => XS.iloadN h hx rfl (hb hby hd) (by simpa using hl) hr
theorem W.iload {k : Nat} {v : Int32} (hd : decode code pc = .ok (.iload k, 2)) (hl : Ls[k]? = some (.val (.int v))) (n : W G K y code ret R Q As Li cells slots (pc + 2) Ls (.int v :: st)) : W G K y code ret R Q As Li cells slots pc Ls st :=
  W.via rfl n fun T h hx hby tg hr => XS.iload h hx rfl (hb hby hd) (by simpa using hl) hr
theorem W.lloadN {k : Fin 4} {v : Int64} (hd : decode code pc = .ok (.lload_n k, 1)) (hl : Ls[k.val]? = some (.val (.long v))) (n : W G K y code ret R Q As Li cells slots (pc + 1) Ls (.long v :: st)) : W G K y code ret R Q As Li cells slots pc Ls st :=
  W.via rfl n fun T h hx hby tg hr => XS.lloadN h hx rfl (hb hby hd) (by simpa using hl) hr
theorem W.lload {k : Nat} {v : Int64} (hd : decode code pc = .ok (.lload k, 2)) (hl : Ls[k]? = some (.val (.long v))) (n : W G K y code ret R Q As Li cells slots (pc + 2) Ls (.long v :: st)) : W G K y code ret R Q As Li cells slots pc Ls st :=
  W.via rfl n fun T h hx hby tg hr => XS.lload h hx rfl (hb hby hd) (by simpa using hl) hr
theorem W.aloadN {k : Fin 4} {v : Value} (hd : decode code pc = .ok (.aload_n k, 1)) (hl : Ls[k.val]? = some (.val v)) (hv : v.isRef = true) (n : W G K y code ret R Q As Li cells slots (pc + 1) Ls (v :: st)) : W G K y code ret R Q As Li cells slots pc Ls st :=
  W.via rfl n fun T h hx hby tg hr => XS.aloadN h hx rfl (hb hby hd) (by simpa using hl) hv hr
theorem W.aload {k : Nat} {v : Value} (hd : decode code pc = .ok (.aload k, 2)) (hl : Ls[k]? = some (.val v)) (hv : v.isRef = true) (n : W G K y code ret R Q As Li cells slots (pc + 2) Ls (v :: st)) : W G K y code ret R Q As Li cells slots pc Ls st :=
  W.via rfl n fun T h hx hby tg hr => XS.aload h hx rfl (hb hby hd) (by simpa using hl) hv hr
theorem W.istoreN {k : Fin 4} {x : Int32} (hd : decode code pc = .ok (.istore_n k, 1)) (hl : storeLocals Ls.toArray k.val (.int x) = some Ls'.toArray) (hn : Ls'.length = Ls.length) (n : W G K y code ret R Q As Li cells slots (pc + 1) Ls' st) : W G K y code ret R Q As Li cells slots pc Ls (.int x :: st) :=
  W.via hn n fun T h hx hby tg hr => XS.istoreN h hx rfl (hb hby hd) rfl hl hr
theorem W.istore {k : Nat} {x : Int32} (hd : decode code pc = .ok (.istore k, 2)) (hl : storeLocals Ls.toArray k (.int x) = some Ls'.toArray) (hn : Ls'.length = Ls.length) (n : W G K y code ret R Q As Li cells slots (pc + 2) Ls' st) : W G K y code ret R Q As Li cells slots pc Ls (.int x :: st) :=
  W.via hn n fun T h hx hby tg hr => XS.istore h hx rfl (hb hby hd) rfl hl hr
theorem W.lstoreN {k : Fin 4} {x : Int64} (hd : decode code pc = .ok (.lstore_n k, 1)) (hl : storeLocals Ls.toArray k.val (.long x) = some Ls'.toArray) (hn : Ls'.length = Ls.length) (n : W G K y code ret R Q As Li cells slots (pc + 1) Ls' st) : W G K y code ret R Q As Li cells slots pc Ls (.long x :: st) :=
  W.via hn n fun T h hx hby tg hr => XS.lstoreN h hx rfl (hb hby hd) rfl hl hr
theorem W.lstore {k : Nat} {x : Int64} (hd : decode code pc = .ok (.lstore k, 2)) (hl : storeLocals Ls.toArray k (.long x) = some Ls'.toArray) (hn : Ls'.length = Ls.length) (n : W G K y code ret R Q As Li cells slots (pc + 2) Ls' st) : W G K y code ret R Q As Li cells slots pc Ls (.long x :: st) :=
  W.via hn n fun T h hx hby tg hr => XS.lstore h hx rfl (hb hby hd) rfl hl hr
theorem W.astoreN {k : Fin 4} {x : Value} (hd : decode code pc = .ok (.astore_n k, 1)) (hv : x.isRef = true) (hl : storeLocals Ls.toArray k.val x = some Ls'.toArray) (hn : Ls'.length = Ls.length) (n : W G K y code ret R Q As Li cells slots (pc + 1) Ls' st) : W G K y code ret R Q As Li cells slots pc Ls (x :: st) :=
  W.via hn n fun T h hx hby tg hr => XS.astoreN h hx rfl (hb hby hd) rfl hv hl hr
theorem W.astore {k : Nat} {x : Value} (hd : decode code pc = .ok (.astore k, 2)) (hv : x.isRef = true) (hl : storeLocals Ls.toArray k x = some Ls'.toArray) (hn : Ls'.length = Ls.length) (n : W G K y code ret R Q As Li cells slots (pc + 2) Ls' st) : W G K y code ret R Q As Li cells slots pc Ls (x :: st) :=
  W.via hn n fun T h hx hby tg hr => XS.astore h hx rfl (hb hby hd) rfl hv hl hr
theorem W.iinc {k : Nat} {cst : Int} {x z : Int32} (hd : decode code pc = .ok (.iinc k cst, 3)) (hk : Ls[k]? = some (.val (.int x))) (hz : Int32.ofInt cst = z) (hl : storeLocals Ls.toArray k (.int (x + z)) = some Ls'.toArray) (hn : Ls'.length = Ls.length) (n : W G K y code ret R Q As Li cells slots (pc + 3) Ls' st) : W G K y code ret R Q As Li cells slots pc Ls st :=
  W.via hn n fun T h hx hby tg hr => XS.iinc h hx rfl (hb hby hd) (by simpa using hk) (by rw [hz]; exact hl) hr
theorem W.iconst {i : Int} {z : Int32} (hd : decode code pc = .ok (.iconst i, 1)) (hz : Int32.ofInt i = z) (n : W G K y code ret R Q As Li cells slots (pc + 1) Ls (.int z :: st)) : W G K y code ret R Q As Li cells slots pc Ls st :=
  W.via rfl n fun T h hx hby tg hr => XS.iconst h hx rfl (hb hby hd) (by rw [hz]; exact hr)
theorem W.bipush {i : Int} {z : Int32} (hd : decode code pc = .ok (.bipush i, 2)) (hz : (Int8.ofInt i).toInt32 = z) (n : W G K y code ret R Q As Li cells slots (pc + 2) Ls (.int z :: st)) : W G K y code ret R Q As Li cells slots pc Ls st :=
  W.via rfl n fun T h hx hby tg hr => XS.bipush h hx rfl (hb hby hd) (by rw [hz]; exact hr)
theorem W.sipush {i : Int} {z : Int32} (hd : decode code pc = .ok (.sipush i, 3)) (hz : (Int16.ofInt i).toInt32 = z) (n : W G K y code ret R Q As Li cells slots (pc + 3) Ls (.int z :: st)) : W G K y code ret R Q As Li cells slots pc Ls st :=
  W.via rfl n fun T h hx hby tg hr => XS.sipush h hx rfl (hb hby hd) (by rw [hz]; exact hr)
theorem W.lconst {k : Fin 2} {z : Int64} (hd : decode code pc = .ok (.lconst k, 1)) (hz : Int64.ofNat k = z) (n : W G K y code ret R Q As Li cells slots (pc + 1) Ls (.long z :: st)) : W G K y code ret R Q As Li cells slots pc Ls st :=
  W.via rfl n fun T h hx hby tg hr => XS.lconst h hx rfl (hb hby hd) (by rw [hz]; exact hr)
theorem W.aconstNull  (hd : decode code pc = .ok (.aconst_null, 1))  (n : W G K y code ret R Q As Li cells slots (pc + 1) Ls (.null :: st)) : W G K y code ret R Q As Li cells slots pc Ls st :=
  W.via rfl n fun T h hx hby tg hr => XS.aconstNull h hx rfl (hb hby hd) hr
theorem W.iadd {x u z : Int32} (hd : decode code pc = .ok (.iadd, 1)) (hz : x + u = z) (n : W G K y code ret R Q As Li cells slots (pc + 1) Ls (.int z :: st)) : W G K y code ret R Q As Li cells slots pc Ls (.int u :: .int x :: st) :=
  W.via rfl n fun T h hx hby tg hr => XS.iadd h hx rfl (hb hby hd) rfl (by subst hz; exact hr)
theorem W.isub {x u z : Int32} (hd : decode code pc = .ok (.isub, 1)) (hz : x - u = z) (n : W G K y code ret R Q As Li cells slots (pc + 1) Ls (.int z :: st)) : W G K y code ret R Q As Li cells slots pc Ls (.int u :: .int x :: st) :=
  W.via rfl n fun T h hx hby tg hr => XS.isub h hx rfl (hb hby hd) rfl (by subst hz; exact hr)
theorem W.imul {x u z : Int32} (hd : decode code pc = .ok (.imul, 1)) (hz : x * u = z) (n : W G K y code ret R Q As Li cells slots (pc + 1) Ls (.int z :: st)) : W G K y code ret R Q As Li cells slots pc Ls (.int u :: .int x :: st) :=
  W.via rfl n fun T h hx hby tg hr => XS.imul h hx rfl (hb hby hd) rfl (by subst hz; exact hr)
theorem W.iand {x u z : Int32} (hd : decode code pc = .ok (.iand, 1)) (hz : x &&& u = z) (n : W G K y code ret R Q As Li cells slots (pc + 1) Ls (.int z :: st)) : W G K y code ret R Q As Li cells slots pc Ls (.int u :: .int x :: st) :=
  W.via rfl n fun T h hx hby tg hr => XS.iand h hx rfl (hb hby hd) rfl (by subst hz; exact hr)
theorem W.ior {x u z : Int32} (hd : decode code pc = .ok (.ior, 1)) (hz : x ||| u = z) (n : W G K y code ret R Q As Li cells slots (pc + 1) Ls (.int z :: st)) : W G K y code ret R Q As Li cells slots pc Ls (.int u :: .int x :: st) :=
  W.via rfl n fun T h hx hby tg hr => XS.ior h hx rfl (hb hby hd) rfl (by subst hz; exact hr)
theorem W.ixor {x u z : Int32} (hd : decode code pc = .ok (.ixor, 1)) (hz : x ^^^ u = z) (n : W G K y code ret R Q As Li cells slots (pc + 1) Ls (.int z :: st)) : W G K y code ret R Q As Li cells slots pc Ls (.int u :: .int x :: st) :=
  W.via rfl n fun T h hx hby tg hr => XS.ixor h hx rfl (hb hby hd) rfl (by subst hz; exact hr)
theorem W.ishl {x u z : Int32} (hd : decode code pc = .ok (.ishl, 1)) (hz : x <<< (u &&& 31) = z) (n : W G K y code ret R Q As Li cells slots (pc + 1) Ls (.int z :: st)) : W G K y code ret R Q As Li cells slots pc Ls (.int u :: .int x :: st) :=
  W.via rfl n fun T h hx hby tg hr => XS.ishl h hx rfl (hb hby hd) rfl (by subst hz; exact hr)
theorem W.ishr {x u z : Int32} (hd : decode code pc = .ok (.ishr, 1)) (hz : x >>> (u &&& 31) = z) (n : W G K y code ret R Q As Li cells slots (pc + 1) Ls (.int z :: st)) : W G K y code ret R Q As Li cells slots pc Ls (.int u :: .int x :: st) :=
  W.via rfl n fun T h hx hby tg hr => XS.ishr h hx rfl (hb hby hd) rfl (by subst hz; exact hr)
theorem W.iushr {x u z : Int32} (hd : decode code pc = .ok (.iushr, 1)) (hz : (x.toUInt32 >>> (u &&& 31).toUInt32).toInt32 = z) (n : W G K y code ret R Q As Li cells slots (pc + 1) Ls (.int z :: st)) : W G K y code ret R Q As Li cells slots pc Ls (.int u :: .int x :: st) :=
  W.via rfl n fun T h hx hby tg hr => XS.iushr h hx rfl (hb hby hd) rfl (by subst hz; exact hr)
theorem W.ladd {x u z : Int64} (hd : decode code pc = .ok (.ladd, 1)) (hz : x + u = z) (n : W G K y code ret R Q As Li cells slots (pc + 1) Ls (.long z :: st)) : W G K y code ret R Q As Li cells slots pc Ls (.long u :: .long x :: st) :=
  W.via rfl n fun T h hx hby tg hr => XS.ladd h hx rfl (hb hby hd) rfl (by subst hz; exact hr)
theorem W.lsub {x u z : Int64} (hd : decode code pc = .ok (.lsub, 1)) (hz : x - u = z) (n : W G K y code ret R Q As Li cells slots (pc + 1) Ls (.long z :: st)) : W G K y code ret R Q As Li cells slots pc Ls (.long u :: .long x :: st) :=
  W.via rfl n fun T h hx hby tg hr => XS.lsub h hx rfl (hb hby hd) rfl (by subst hz; exact hr)
theorem W.lmul {x u z : Int64} (hd : decode code pc = .ok (.lmul, 1)) (hz : x * u = z) (n : W G K y code ret R Q As Li cells slots (pc + 1) Ls (.long z :: st)) : W G K y code ret R Q As Li cells slots pc Ls (.long u :: .long x :: st) :=
  W.via rfl n fun T h hx hby tg hr => XS.lmul h hx rfl (hb hby hd) rfl (by subst hz; exact hr)
theorem W.land {x u z : Int64} (hd : decode code pc = .ok (.land, 1)) (hz : x &&& u = z) (n : W G K y code ret R Q As Li cells slots (pc + 1) Ls (.long z :: st)) : W G K y code ret R Q As Li cells slots pc Ls (.long u :: .long x :: st) :=
  W.via rfl n fun T h hx hby tg hr => XS.land h hx rfl (hb hby hd) rfl (by subst hz; exact hr)
theorem W.lor {x u z : Int64} (hd : decode code pc = .ok (.lor, 1)) (hz : x ||| u = z) (n : W G K y code ret R Q As Li cells slots (pc + 1) Ls (.long z :: st)) : W G K y code ret R Q As Li cells slots pc Ls (.long u :: .long x :: st) :=
  W.via rfl n fun T h hx hby tg hr => XS.lor h hx rfl (hb hby hd) rfl (by subst hz; exact hr)
theorem W.lxor {x u z : Int64} (hd : decode code pc = .ok (.lxor, 1)) (hz : x ^^^ u = z) (n : W G K y code ret R Q As Li cells slots (pc + 1) Ls (.long z :: st)) : W G K y code ret R Q As Li cells slots pc Ls (.long u :: .long x :: st) :=
  W.via rfl n fun T h hx hby tg hr => XS.lxor h hx rfl (hb hby hd) rfl (by subst hz; exact hr)
theorem W.idiv {x u z : Int32} (hd : decode code pc = .ok (.idiv, 1)) (hy : u ≠ 0) (hz : x / u = z) (n : W G K y code ret R Q As Li cells slots (pc + 1) Ls (.int z :: st)) : W G K y code ret R Q As Li cells slots pc Ls (.int u :: .int x :: st) :=
  W.via rfl n fun T h hx hby tg hr => XS.idiv h hx rfl (hb hby hd) rfl hy (by subst hz; exact hr)
theorem W.irem {x u z : Int32} (hd : decode code pc = .ok (.irem, 1)) (hy : u ≠ 0) (hz : x - x / u * u = z) (n : W G K y code ret R Q As Li cells slots (pc + 1) Ls (.int z :: st)) : W G K y code ret R Q As Li cells slots pc Ls (.int u :: .int x :: st) :=
  W.via rfl n fun T h hx hby tg hr => XS.irem h hx rfl (hb hby hd) rfl hy (by subst hz; exact hr)
theorem W.ldiv {x u z : Int64} (hd : decode code pc = .ok (.ldiv, 1)) (hy : u ≠ 0) (hz : x / u = z) (n : W G K y code ret R Q As Li cells slots (pc + 1) Ls (.long z :: st)) : W G K y code ret R Q As Li cells slots pc Ls (.long u :: .long x :: st) :=
  W.via rfl n fun T h hx hby tg hr => XS.ldiv h hx rfl (hb hby hd) rfl hy (by subst hz; exact hr)
theorem W.lrem {x u z : Int64} (hd : decode code pc = .ok (.lrem, 1)) (hy : u ≠ 0) (hz : x - x / u * u = z) (n : W G K y code ret R Q As Li cells slots (pc + 1) Ls (.long z :: st)) : W G K y code ret R Q As Li cells slots pc Ls (.long u :: .long x :: st) :=
  W.via rfl n fun T h hx hby tg hr => XS.lrem h hx rfl (hb hby hd) rfl hy (by subst hz; exact hr)
theorem W.irem' {x u : Int32} (hd : decode code pc = .ok (.irem, 1)) (hy : u ≠ 0) (n : W G K y code ret R Q As Li cells slots (pc + 1) Ls (.int (x % u) :: st)) : W G K y code ret R Q As Li cells slots pc Ls (.int u :: .int x :: st) :=
  W.via rfl n fun T h hx hby tg hr => XS.irem h hx rfl (hb hby hd) rfl hy (by rw [irem_eq_mod]; exact hr)
theorem W.ineg {x : Int32} {z : Int32} (hd : decode code pc = .ok (.ineg, 1)) (hz : -x = z) (n : W G K y code ret R Q As Li cells slots (pc + 1) Ls (.int z :: st)) : W G K y code ret R Q As Li cells slots pc Ls (.int x :: st) :=
  W.via rfl n fun T h hx hby tg hr => XS.ineg h hx rfl (hb hby hd) rfl (by subst hz; exact hr)
theorem W.lneg {x : Int64} {z : Int64} (hd : decode code pc = .ok (.lneg, 1)) (hz : -x = z) (n : W G K y code ret R Q As Li cells slots (pc + 1) Ls (.long z :: st)) : W G K y code ret R Q As Li cells slots pc Ls (.long x :: st) :=
  W.via rfl n fun T h hx hby tg hr => XS.lneg h hx rfl (hb hby hd) rfl (by subst hz; exact hr)
theorem W.i2l {x : Int32} {z : Int64} (hd : decode code pc = .ok (.i2l, 1)) (hz : x.toInt64 = z) (n : W G K y code ret R Q As Li cells slots (pc + 1) Ls (.long z :: st)) : W G K y code ret R Q As Li cells slots pc Ls (.int x :: st) :=
  W.via rfl n fun T h hx hby tg hr => XS.i2l h hx rfl (hb hby hd) rfl (by subst hz; exact hr)
theorem W.l2i {x : Int64} {z : Int32} (hd : decode code pc = .ok (.l2i, 1)) (hz : x.toInt32 = z) (n : W G K y code ret R Q As Li cells slots (pc + 1) Ls (.int z :: st)) : W G K y code ret R Q As Li cells slots pc Ls (.long x :: st) :=
  W.via rfl n fun T h hx hby tg hr => XS.l2i h hx rfl (hb hby hd) rfl (by subst hz; exact hr)
theorem W.i2b {x : Int32} {z : Int32} (hd : decode code pc = .ok (.i2b, 1)) (hz : x.toInt8.toInt32 = z) (n : W G K y code ret R Q As Li cells slots (pc + 1) Ls (.int z :: st)) : W G K y code ret R Q As Li cells slots pc Ls (.int x :: st) :=
  W.via rfl n fun T h hx hby tg hr => XS.i2b h hx rfl (hb hby hd) rfl (by subst hz; exact hr)
theorem W.i2c {x : Int32} {z : Int32} (hd : decode code pc = .ok (.i2c, 1)) (hz : x.toUInt32.toUInt16.toUInt32.toInt32 = z) (n : W G K y code ret R Q As Li cells slots (pc + 1) Ls (.int z :: st)) : W G K y code ret R Q As Li cells slots pc Ls (.int x :: st) :=
  W.via rfl n fun T h hx hby tg hr => XS.i2c h hx rfl (hb hby hd) rfl (by subst hz; exact hr)
theorem W.i2s {x : Int32} {z : Int32} (hd : decode code pc = .ok (.i2s, 1)) (hz : x.toInt16.toInt32 = z) (n : W G K y code ret R Q As Li cells slots (pc + 1) Ls (.int z :: st)) : W G K y code ret R Q As Li cells slots pc Ls (.int x :: st) :=
  W.via rfl n fun T h hx hby tg hr => XS.i2s h hx rfl (hb hby hd) rfl (by subst hz; exact hr)
theorem W.lcmp {x u : Int64} {z : Int32} (hd : decode code pc = .ok (.lcmp, 1)) (hz : lcmpW x u = z) (n : W G K y code ret R Q As Li cells slots (pc + 1) Ls (.int z :: st)) : W G K y code ret R Q As Li cells slots pc Ls (.long u :: .long x :: st) :=
  W.via rfl n fun T h hx hby tg hr => XS.lcmp h hx rfl (hb hby hd) rfl (by subst hz; exact hr)
theorem W.lshl {x z : Int64} {u : Int32} (hd : decode code pc = .ok (.lshl, 1)) (hz : x <<< (u &&& 0x3f).toInt64 = z) (n : W G K y code ret R Q As Li cells slots (pc + 1) Ls (.long z :: st)) : W G K y code ret R Q As Li cells slots pc Ls (.int u :: .long x :: st) :=
  W.via rfl n fun T h hx hby tg hr => XS.lshl h hx rfl (hb hby hd) rfl (by subst hz; exact hr)
theorem W.lshr {x z : Int64} {u : Int32} (hd : decode code pc = .ok (.lshr, 1)) (hz : x >>> (u &&& 0x3f).toInt64 = z) (n : W G K y code ret R Q As Li cells slots (pc + 1) Ls (.long z :: st)) : W G K y code ret R Q As Li cells slots pc Ls (.int u :: .long x :: st) :=
  W.via rfl n fun T h hx hby tg hr => XS.lshr h hx rfl (hb hby hd) rfl (by subst hz; exact hr)
theorem W.lushr {x z : Int64} {u : Int32} (hd : decode code pc = .ok (.lushr, 1)) (hz : (x.toUInt64 >>> (u &&& 0x3f).toInt64.toUInt64).toInt64 = z) (n : W G K y code ret R Q As Li cells slots (pc + 1) Ls (.long z :: st)) : W G K y code ret R Q As Li cells slots pc Ls (.int u :: .long x :: st) :=
  W.via rfl n fun T h hx hby tg hr => XS.lushr h hx rfl (hb hby hd) rfl (by subst hz; exact hr)
theorem W.dup {x : Value} (hd : decode code pc = .ok (.dup, 1)) (hc : x.category = 1) (n : W G K y code ret R Q As Li cells slots (pc + 1) Ls (x :: x :: st)) : W G K y code ret R Q As Li cells slots pc Ls (x :: st) :=
  W.via rfl n fun T h hx hby tg hr => XS.dup h hx rfl (hb hby hd) rfl hc hr
theorem W.pop {x : Value} (hd : decode code pc = .ok (.pop, 1)) (hc : x.category = 1) (n : W G K y code ret R Q As Li cells slots (pc + 1) Ls st) : W G K y code ret R Q As Li cells slots pc Ls (x :: st) :=
  W.via rfl n fun T h hx hby tg hr => XS.pop h hx rfl (hb hby hd) rfl hc hr
theorem W.dupX1 {x z : Value} (hd : decode code pc = .ok (.dup_x1, 1)) (hc : x.category = 1) (hc' : z.category = 1) (n : W G K y code ret R Q As Li cells slots (pc + 1) Ls (x :: z :: x :: st)) : W G K y code ret R Q As Li cells slots pc Ls (x :: z :: st) :=
  W.via rfl n fun T h hx hby tg hr => XS.dupX1 h hx rfl (hb hby hd) rfl hc hc' hr
theorem W.dup2 {x z : Value} (hd : decode code pc = .ok (.dup2, 1)) (hc : x.category = 1) (hc' : z.category = 1) (n : W G K y code ret R Q As Li cells slots (pc + 1) Ls (x :: z :: x :: z :: st)) : W G K y code ret R Q As Li cells slots pc Ls (x :: z :: st) :=
  W.via rfl n fun T h hx hby tg hr => Jvm.Free.XT.dup2 h hx rfl (hb hby hd) rfl hc hc' hr
theorem W.goto {o : Int} (pc' : Nat) (hd : decode code pc = .ok (.goto o, 3)) (ho : 0 ≤ (pc : Int) + o) (hp : ((pc : Int) + o).toNat = pc') (n : W G K y code ret R Q As Li cells slots pc' Ls st) : W G K y code ret R Q As Li cells slots pc Ls st :=
  W.via rfl n fun T h hx hby tg hr => XS.goto h hx rfl rfl (hb hby hd) ho hp hr
theorem W.if1 {cd : ClassFile.Cond} {o : Int} {x : Int32} (pc' : Nat) (hd : decode code pc = .ok (.ifCond cd o, 3)) (ho : 0 ≤ (pc : Int) + o) (hp : ((pc : Int) + o).toNat = pc') (hc : ifCond.holds cd x = true) (n : W G K y code ret R Q As Li cells slots pc' Ls st) : W G K y code ret R Q As Li cells slots pc Ls (.int x :: st) :=
  W.via rfl n fun T h hx hby tg hr => XS.ifYes h hx rfl rfl (hb hby hd) rfl hc ho hp hr
theorem W.if0 {cd : ClassFile.Cond} {o : Int} {x : Int32} (hd : decode code pc = .ok (.ifCond cd o, 3)) (hc : ifCond.holds cd x = false) (n : W G K y code ret R Q As Li cells slots (pc + 3) Ls st) : W G K y code ret R Q As Li cells slots pc Ls (.int x :: st) :=
  W.via rfl n fun T h hx hby tg hr => XS.ifNo h hx rfl (hb hby hd) rfl hc hr
theorem W.ic1 {cd : ClassFile.Cond} {o : Int} {x z : Int32} (pc' : Nat) (hd : decode code pc = .ok (.if_icmp cd o, 3)) (ho : 0 ≤ (pc : Int) + o) (hp : ((pc : Int) + o).toNat = pc') (hc : if_icmp.holds cd x z = true) (n : W G K y code ret R Q As Li cells slots pc' Ls st) : W G K y code ret R Q As Li cells slots pc Ls (.int z :: .int x :: st) :=
  W.via rfl n fun T h hx hby tg hr => XS.icmpYes h hx rfl rfl (hb hby hd) rfl hc ho hp hr
theorem W.ic0 {cd : ClassFile.Cond} {o : Int} {x z : Int32} (hd : decode code pc = .ok (.if_icmp cd o, 3)) (hc : if_icmp.holds cd x z = false) (n : W G K y code ret R Q As Li cells slots (pc + 3) Ls st) : W G K y code ret R Q As Li cells slots pc Ls (.int z :: .int x :: st) :=
  W.via rfl n fun T h hx hby tg hr => XS.icmpNo h hx rfl (hb hby hd) rfl hc hr
theorem W.nullY {o : Int} (pc' : Nat) (hd : decode code pc = .ok (.ifnull o, 3)) (ho : 0 ≤ (pc : Int) + o) (hp : ((pc : Int) + o).toNat = pc') (n : W G K y code ret R Q As Li cells slots pc' Ls st) : W G K y code ret R Q As Li cells slots pc Ls (.null :: st) :=
  W.via rfl n fun T h hx hby tg hr => XS.ifnullYes h hx rfl rfl (hb hby hd) rfl ho hp hr
theorem W.nullN {o : Int} {b : Addr} (hd : decode code pc = .ok (.ifnull o, 3)) (n : W G K y code ret R Q As Li cells slots (pc + 3) Ls st) : W G K y code ret R Q As Li cells slots pc Ls (.ref b :: st) :=
  W.via rfl n fun T h hx hby tg hr => XS.ifnullNo h hx rfl (hb hby hd) rfl hr
theorem W.nonnullY {o : Int} {b : Addr} (pc' : Nat) (hd : decode code pc = .ok (.ifnonnull o, 3)) (ho : 0 ≤ (pc : Int) + o) (hp : ((pc : Int) + o).toNat = pc') (n : W G K y code ret R Q As Li cells slots pc' Ls st) : W G K y code ret R Q As Li cells slots pc Ls (.ref b :: st) :=
  W.via rfl n fun T h hx hby tg hr => XS.ifnonnullYes h hx rfl rfl (hb hby hd) rfl ho hp hr
theorem W.nonnullN {o : Int} (hd : decode code pc = .ok (.ifnonnull o, 3)) (n : W G K y code ret R Q As Li cells slots (pc + 3) Ls st) : W G K y code ret R Q As Li cells slots pc Ls (.null :: st) :=
  W.via rfl n fun T h hx hby tg hr => XS.ifnonnullNo h hx rfl (hb hby hd) rfl hr
theorem W.ac1 {cd : ClassFile.ACond} {o : Int} {x z : Value} (pc' : Nat) (hd : decode code pc = .ok (.if_acmp cd o, 3)) (ho : 0 ≤ (pc : Int) + o) (hp : ((pc : Int) + o).toNat = pc') (h1 : x.isRef = true) (h2 : z.isRef = true) (hc : Jvm.Free.XT.acmp cd x z = true) (n : W G K y code ret R Q As Li cells slots pc' Ls st) : W G K y code ret R Q As Li cells slots pc Ls (z :: x :: st) :=
  W.via rfl n fun T h hx hby tg hr => Jvm.Free.XT.acmpYes h hx rfl rfl (hb hby hd) rfl h1 h2 hc ho hp hr
theorem W.ac0 {cd : ClassFile.ACond} {o : Int} {x z : Value} (hd : decode code pc = .ok (.if_acmp cd o, 3)) (h1 : x.isRef = true) (h2 : z.isRef = true) (hc : Jvm.Free.XT.acmp cd x z = false) (n : W G K y code ret R Q As Li cells slots (pc + 3) Ls st) : W G K y code ret R Q As Li cells slots pc Ls (z :: x :: st) :=
  W.via rfl n fun T h hx hby tg hr => Jvm.Free.XT.acmpNo h hx rfl (hb hby hd) rfl h1 h2 hc hr
theorem W.if_eq {o : Int} {x : Int32} (pc' : Nat) (hd : decode code pc = .ok (.ifCond .eq o, 3)) (ho : 0 ≤ (pc : Int) + o) (hp : ((pc : Int) + o).toNat = pc') (n1 : x = (0 : Int32) → W G K y code ret R Q As Li cells slots pc' Ls st) (n0 : ¬ x = (0 : Int32) → W G K y code ret R Q As Li cells slots (pc + 3) Ls st) : W G K y code ret R Q As Li cells slots pc Ls (.int x :: st) := by
  by_cases h : x = (0 : Int32)
  · exact W.if1 pc' hd ho hp ((Jvm.RoadKit.if0 _ _).trans (teq h).1) (n1 h)
  · exact W.if0 hd ((Jvm.RoadKit.if0 _ _).trans (feq h).1) (n0 h)
theorem W.ic_eq {o : Int} {x z : Int32} (pc' : Nat) (hd : decode code pc = .ok (.if_icmp .eq o, 3)) (ho : 0 ≤ (pc : Int) + o) (hp : ((pc : Int) + o).toNat = pc') (n1 : x = z → W G K y code ret R Q As Li cells slots pc' Ls st) (n0 : ¬ x = z → W G K y code ret R Q As Li cells slots (pc + 3) Ls st) : W G K y code ret R Q As Li cells slots pc Ls (.int z :: .int x :: st) := by
  by_cases h : x = z
  · exact W.ic1 pc' hd ho hp (teq h).1 (n1 h)
  · exact W.ic0 hd (feq h).1 (n0 h)
theorem W.if_ne {o : Int} {x : Int32} (pc' : Nat) (hd : decode code pc = .ok (.ifCond .ne o, 3)) (ho : 0 ≤ (pc : Int) + o) (hp : ((pc : Int) + o).toNat = pc') (n1 : ¬ x = (0 : Int32) → W G K y code ret R Q As Li cells slots pc' Ls st) (n0 : x = (0 : Int32) → W G K y code ret R Q As Li cells slots (pc + 3) Ls st) : W G K y code ret R Q As Li cells slots pc Ls (.int x :: st) := by
  by_cases h : x = (0 : Int32)
  · exact W.if0 hd ((Jvm.RoadKit.if0 _ _).trans (teq h).2) (n0 h)
  · exact W.if1 pc' hd ho hp ((Jvm.RoadKit.if0 _ _).trans (feq h).2) (n1 h)
theorem W.ic_ne {o : Int} {x z : Int32} (pc' : Nat) (hd : decode code pc = .ok (.if_icmp .ne o, 3)) (ho : 0 ≤ (pc : Int) + o) (hp : ((pc : Int) + o).toNat = pc') (n1 : ¬ x = z → W G K y code ret R Q As Li cells slots pc' Ls st) (n0 : x = z → W G K y code ret R Q As Li cells slots (pc + 3) Ls st) : W G K y code ret R Q As Li cells slots pc Ls (.int z :: .int x :: st) := by
  by_cases h : x = z
  · exact W.ic0 hd (teq h).2 (n0 h)
  · exact W.ic1 pc' hd ho hp (feq h).2 (n1 h)
theorem W.if_lt {o : Int} {x : Int32} (pc' : Nat) (hd : decode code pc = .ok (.ifCond .lt o, 3)) (ho : 0 ≤ (pc : Int) + o) (hp : ((pc : Int) + o).toNat = pc') (n1 : x < (0 : Int32) → W G K y code ret R Q As Li cells slots pc' Ls st) (n0 : ¬ x < (0 : Int32) → W G K y code ret R Q As Li cells slots (pc + 3) Ls st) : W G K y code ret R Q As Li cells slots pc Ls (.int x :: st) := by
  by_cases h : x < (0 : Int32)
  · exact W.if1 pc' hd ho hp ((Jvm.RoadKit.if0 _ _).trans (tlt h).1) (n1 h)
  · exact W.if0 hd ((Jvm.RoadKit.if0 _ _).trans (flt h).1) (n0 h)
theorem W.ic_lt {o : Int} {x z : Int32} (pc' : Nat) (hd : decode code pc = .ok (.if_icmp .lt o, 3)) (ho : 0 ≤ (pc : Int) + o) (hp : ((pc : Int) + o).toNat = pc') (n1 : x < z → W G K y code ret R Q As Li cells slots pc' Ls st) (n0 : ¬ x < z → W G K y code ret R Q As Li cells slots (pc + 3) Ls st) : W G K y code ret R Q As Li cells slots pc Ls (.int z :: .int x :: st) := by
  by_cases h : x < z
  · exact W.ic1 pc' hd ho hp (tlt h).1 (n1 h)
  · exact W.ic0 hd (flt h).1 (n0 h)
theorem W.if_ge {o : Int} {x : Int32} (pc' : Nat) (hd : decode code pc = .ok (.ifCond .ge o, 3)) (ho : 0 ≤ (pc : Int) + o) (hp : ((pc : Int) + o).toNat = pc') (n1 : ¬ x < (0 : Int32) → W G K y code ret R Q As Li cells slots pc' Ls st) (n0 : x < (0 : Int32) → W G K y code ret R Q As Li cells slots (pc + 3) Ls st) : W G K y code ret R Q As Li cells slots pc Ls (.int x :: st) := by
  by_cases h : x < (0 : Int32)
  · exact W.if0 hd ((Jvm.RoadKit.if0 _ _).trans (tlt h).2.1) (n0 h)
  · exact W.if1 pc' hd ho hp ((Jvm.RoadKit.if0 _ _).trans (flt h).2.1) (n1 h)
theorem W.ic_ge {o : Int} {x z : Int32} (pc' : Nat) (hd : decode code pc = .ok (.if_icmp .ge o, 3)) (ho : 0 ≤ (pc : Int) + o) (hp : ((pc : Int) + o).toNat = pc') (n1 : ¬ x < z → W G K y code ret R Q As Li cells slots pc' Ls st) (n0 : x < z → W G K y code ret R Q As Li cells slots (pc + 3) Ls st) : W G K y code ret R Q As Li cells slots pc Ls (.int z :: .int x :: st) := by
  by_cases h : x < z
  · exact W.ic0 hd (tlt h).2.1 (n0 h)
  · exact W.ic1 pc' hd ho hp (flt h).2.1 (n1 h)
theorem W.if_gt {o : Int} {x : Int32} (pc' : Nat) (hd : decode code pc = .ok (.ifCond .gt o, 3)) (ho : 0 ≤ (pc : Int) + o) (hp : ((pc : Int) + o).toNat = pc') (n1 : (0 : Int32) < x → W G K y code ret R Q As Li cells slots pc' Ls st) (n0 : ¬ (0 : Int32) < x → W G K y code ret R Q As Li cells slots (pc + 3) Ls st) : W G K y code ret R Q As Li cells slots pc Ls (.int x :: st) := by
  by_cases h : (0 : Int32) < x
  · exact W.if1 pc' hd ho hp ((Jvm.RoadKit.if0 _ _).trans (tlt h).2.2.1) (n1 h)
  · exact W.if0 hd ((Jvm.RoadKit.if0 _ _).trans (flt h).2.2.1) (n0 h)
theorem W.ic_gt {o : Int} {x z : Int32} (pc' : Nat) (hd : decode code pc = .ok (.if_icmp .gt o, 3)) (ho : 0 ≤ (pc : Int) + o) (hp : ((pc : Int) + o).toNat = pc') (n1 : z < x → W G K y code ret R Q As Li cells slots pc' Ls st) (n0 : ¬ z < x → W G K y code ret R Q As Li cells slots (pc + 3) Ls st) : W G K y code ret R Q As Li cells slots pc Ls (.int z :: .int x :: st) := by
  by_cases h : z < x
  · exact W.ic1 pc' hd ho hp (tlt h).2.2.1 (n1 h)
  · exact W.ic0 hd (flt h).2.2.1 (n0 h)
theorem W.if_le {o : Int} {x : Int32} (pc' : Nat) (hd : decode code pc = .ok (.ifCond .le o, 3)) (ho : 0 ≤ (pc : Int) + o) (hp : ((pc : Int) + o).toNat = pc') (n1 : ¬ (0 : Int32) < x → W G K y code ret R Q As Li cells slots pc' Ls st) (n0 : (0 : Int32) < x → W G K y code ret R Q As Li cells slots (pc + 3) Ls st) : W G K y code ret R Q As Li cells slots pc Ls (.int x :: st) := by
  by_cases h : (0 : Int32) < x
  · exact W.if0 hd ((Jvm.RoadKit.if0 _ _).trans (tlt h).2.2.2) (n0 h)
  · exact W.if1 pc' hd ho hp ((Jvm.RoadKit.if0 _ _).trans (flt h).2.2.2) (n1 h)
theorem W.ic_le {o : Int} {x z : Int32} (pc' : Nat) (hd : decode code pc = .ok (.if_icmp .le o, 3)) (ho : 0 ≤ (pc : Int) + o) (hp : ((pc : Int) + o).toNat = pc') (n1 : ¬ z < x → W G K y code ret R Q As Li cells slots pc' Ls st) (n0 : z < x → W G K y code ret R Q As Li cells slots (pc + 3) Ls st) : W G K y code ret R Q As Li cells slots pc Ls (.int z :: .int x :: st) := by
  by_cases h : z < x
  · exact W.ic0 hd (tlt h).2.2.2 (n0 h)
  · exact W.ic1 pc' hd ho hp (flt h).2.2.2 (n1 h)
end Laws
end Jvm.Own
namespace Jvm.Own
open Sem ClassFile Op Lib Jvm.Stand Jvm.Free Jvm.LawKit Jvm.RoadKit
section Laws
variable {G : Gx} {K : Kx} {y : MethodName} {code : ByteArray} {ret : Option FieldType} {R : Room} {Q : Qx} {As As' : List Ent} {Li Li' : List LitE} {cells slots pc pc' : Nat} {Ls Ls' : List Slot} {st st' : List Value}
variable {a b : Addr} {w : Bool} {C O n d R0 host : String} {v x : Value} {fs : List Fd} {vs vs' : List Value} {t ty : FieldType} {idx kk : Nat}
theorem ok_Z {vm0 : Vm} {k0 mL : Nat} (ok : Ok G K y code mL ret) (hS : K.s.Since vm0 k0) : G.Z.Warmed39 (K.s.setVm vm0).vm := State.Warmed39.trans ok.2.2.2.1 hS.1
theorem ok_own {vm0 : Vm} {k0 mL : Nat} (ok : Ok G K y code mL ret) (hS : K.s.Since vm0 k0) : (K.s.setVm vm0).vm.findClass y.cls = some K.m.cls := by
  show vm0.findClass y.cls = _
  rw [hS.1.alike.findClass]; exact ok.2.2.2.2.1
theorem ok_fk {mL : Nat} (ok : Ok G K y code mL ret) : FK G K.below := ok.2.2.2.2.2.2.2.2.2.1
theorem ok_ext {mL : Nat} (ok : Ok G K y code mL ret) : Ext G.Z.heap K.s.heap := ok.2.2.2.2.2.2.2.2.2.2
/-! ### fields -/
theorem W.getF (wl : (Cond.fieldLink y.cls idx R0 n d).before G.a0 G.Z = true ∨ (Cond.fieldLinkNest y.cls idx R0 n d host).before G.a0 G.Z = true) (via : Via G.Z R0 O n d) (hd : decode code pc = .ok (.getfield idx, 3))
    (hm : (a, w, obj C fs vs) ∈ As) (hf : FAt fs vs O n d v) (nx : W G K y code ret R Q As Li cells slots (pc + 3) Ls (v :: st)) : W G K y code ret R Q As Li cells slots pc Ls (.ref a :: st) := by
  intro T vm0 k0 locs ok X hS hk hN hI hL hF
  obtain ⟨T', X', e', st'⟩ := Jvm.RoadKit.getF X ok.1 (ok_Z ok hS) (ok_own ok hS) wl via rfl (hI.fld hm hf) (g := mkF K.m pc Ls.toArray (.ref a :: st)) rfl rfl (hb ok.2.1 hd)
  obtain ⟨U, u, h1, h2⟩ := nx T' vm0 k0 locs ok X' hS (by rw [e']; exact hk) hN (by rw [e']; exact hI) hL hF
  exact ⟨U, u, st' _ h1, h2⟩
/-- .. of an object that stood at the start -/
theorem W.getFo (wl : (Cond.fieldLink y.cls idx R0 n d).before G.a0 G.Z = true ∨ (Cond.fieldLinkNest y.cls idx R0 n d host).before G.a0 G.Z = true) (via : Via G.Z R0 O n d) (hd : decode code pc = .ok (.getfield idx, 3))
    (F : Fld G.Z G.Z.heap a O n d v) (nx : W G K y code ret R Q As Li cells slots (pc + 3) Ls (v :: st)) : W G K y code ret R Q As Li cells slots pc Ls (.ref a :: st) := by
  intro T vm0 k0 locs ok X hS hk hN hI hL hF
  obtain ⟨T', X', e', st'⟩ := Jvm.RoadKit.getF X ok.1 (ok_Z ok hS) (ok_own ok hS) wl via rfl (F.ext hI.old) (g := mkF K.m pc Ls.toArray (.ref a :: st)) rfl rfl (hb ok.2.1 hd)
  obtain ⟨U, u, h1, h2⟩ := nx T' vm0 k0 locs ok X' hS (by rw [e']; exact hk) hN (by rw [e']; exact hI) hL hF
  exact ⟨U, u, st' _ h1, h2⟩
theorem W.putF (wl : (Cond.fieldLink y.cls idx R0 n d).before G.a0 G.Z = true ∨ (Cond.fieldLinkNest y.cls idx R0 n d host).before G.a0 G.Z = true) (via : Via G.Z R0 O n d) (hd : decode code pc = .ok (.putfield idx, 3))
    (L : (Cond.lays C O n d).before G.a0 G.Z = true ∨ ((Cond.laysFinal C O n d).before G.a0 G.Z = true ∧ y.cls = O ∧ y.name = "<init>")) (wi : (Cond.instantiable C kk).before G.a0 G.Z = true)
    (hty : parseFieldDescriptor d = some ty) (hn : narrow ty x = x) (hf : fits ty x = true)
    (u : Upd As a (obj C fs vs) (obj C fs vs') As') (q : FUp fs vs O n d x vs') (nx : W G K y code ret R Q As' Li cells slots (pc + 3) Ls st) : W G K y code ret R Q As Li cells slots pc Ls (x :: .ref a :: st) := by
  intro T vm0 k0 locs ok X hS hk hN hI hL hF
  have hm := u.mem
  obtain ⟨i, q1, q2, -⟩ := id q
  have F0 : Fld G.Z T.heap a O n d vs[i] := (hI.2.2 _ hm).2.2.2.1 i _ _ q1 (List.getElem?_eq_getElem q2)
  obtain ⟨T', h', X', e', W', st'⟩ := Jvm.RoadKit.putF X ok.1 (ok_Z ok hS) (ok_own ok hS) wl via rfl F0 (hI.exa hm) (L.imp id fun r => ⟨r.1, r.2.1, ok.2.2.2.2.2.1.trans r.2.2⟩) wi hty hn hf (g := mkF K.m pc Ls.toArray (x :: .ref a :: st)) rfl rfl (hb ok.2.1 hd)
  obtain ⟨U, u', h1, h2⟩ := nx T' vm0 k0 _ ok X' hS (by rw [e', W'.size]; exact hk) hN (by rw [e']; exact hI.wrF u q W') hL (Fr.snoc X' hF ((hI.2.2 _ hm).1 rfl))
  exact ⟨U, u', st' _ h1, h2⟩
/-- a boolean, byte, char or short: what the field keeps of the int -/
theorem W.putN (wl : (Cond.fieldLink y.cls idx R0 n d).before G.a0 G.Z = true) (via : Via G.Z R0 O n d) (hd : decode code pc = .ok (.putfield idx, 3))
    (L : (Cond.lays C O n d).before G.a0 G.Z = true ∨ ((Cond.laysFinal C O n d).before G.a0 G.Z = true ∧ y.cls = O ∧ y.name = "<init>")) (wi : (Cond.instantiable C kk).before G.a0 G.Z = true)
    {x' : Value} (hty : parseFieldDescriptor d = some ty) (hn : narrow ty x = x') (hf : fits ty x' = true)
    (u : Upd As a (obj C fs vs) (obj C fs vs') As') (q : FUp fs vs O n d x' vs') (nx : W G K y code ret R Q As' Li cells slots (pc + 3) Ls st) : W G K y code ret R Q As Li cells slots pc Ls (x :: .ref a :: st) := by
  intro T vm0 k0 locs ok X hS hk hN hI hL hF
  have hm := u.mem
  obtain ⟨i, q1, q2, -⟩ := id q
  have F0 : Fld G.Z T.heap a O n d vs[i] := (hI.2.2 _ hm).2.2.2.1 i _ _ q1 (List.getElem?_eq_getElem q2)
  obtain ⟨T', h', X', e', W', st'⟩ := Jvm.RoadKit.putFN X ok.1 (ok_Z ok hS) (ok_own ok hS) wl via rfl F0 (hI.exa hm) (L.imp id fun r => ⟨r.1, r.2.1, ok.2.2.2.2.2.1.trans r.2.2⟩) wi hty hn hf (g := mkF K.m pc Ls.toArray (x :: .ref a :: st)) rfl rfl (hb ok.2.1 hd)
  obtain ⟨U, u', h1, h2⟩ := nx T' vm0 k0 _ ok X' hS (by rw [e', W'.size]; exact hk) hN (by rw [e']; exact hI.wrF u q W') hL (Fr.snoc X' hF ((hI.2.2 _ hm).1 rfl))
  exact ⟨U, u', st' _ h1, h2⟩
theorem W.getS (wl : (Cond.fieldLink y.cls idx R0 n d).before G.a0 G.Z = true ∨ (Cond.fieldLinkNest y.cls idx R0 n d host).before G.a0 G.Z = true) (via : Via G.Z R0 O n d) (hd : decode code pc = .ok (.getstatic idx, 3))
    (F : Sta G.Z G.Z.heap O n d v) (nx : W G K y code ret R Q As Li cells slots (pc + 3) Ls (v :: st)) : W G K y code ret R Q As Li cells slots pc Ls st := by
  intro T vm0 k0 locs ok X hS hk hN hI hL hF
  obtain ⟨T', X', e', st'⟩ := getS2 X ok.1 (ok_Z ok hS) (ok_own ok hS) wl via rfl (F.ext hI.old) (g := mkF K.m pc Ls.toArray st) rfl (hb ok.2.1 hd)
  obtain ⟨U, u, h1, h2⟩ := nx T' vm0 k0 locs ok X' hS (by rw [e']; exact hk) hN (by rw [e']; exact hI) hL hF
  exact ⟨U, u, st' _ h1, h2⟩
/-! ### objects and arrays are made -/
def dv (d : String) : Value := defaultValue ((parseFieldDescriptor d).getD .int)
theorem W.new (wl : (Cond.classLink y.cls idx C).before G.a0 G.Z = true) (wi : (Cond.instantiable C kk).before G.a0 G.Z = true) (wz : (Cond.initialized C).before G.a0 G.Z = true) (hd : decode code pc = .ok (.new idx, 3))
    (hl : LaidAll G.Z G.a0 C fs) (hv : (fs.map fun f => dv f.2.2) = vs) (hc : cells + 1 ≤ R.cells) (hs : slots + kk ≤ R.slots)
    (nx : ∀ a, W G K y code ret R Q ((a, true, obj C fs vs) :: As) Li (cells + 1) (slots + kk) (pc + 3) Ls (.ref a :: st)) : W G K y code ret R Q As Li cells slots pc Ls st := by
  intro T vm0 k0 locs ok X hS hk hN hI hL hF
  obtain ⟨T', h', X', e', E, A, D, N, st'⟩ := newO X ok.1 (ok_Z ok hS) (ok_own ok hS) wl wi wz rfl (g := mkF K.m pc Ls.toArray st) rfl (hb ok.2.1 hd) hc hs
  have hD : Des G.Z G.a0 h' T.heap.size true (obj C fs vs) := by
    subst hv
    refine ⟨A, by simp, fun i f v hf hv => ?_, fun _ => ⟨hl, N⟩⟩
    rw [List.getElem?_map, hf] at hv
    cases hv
    obtain ⟨L1, t, ht⟩ := hl.2 f (List.mem_of_getElem? hf)
    have q := D L1 ht
    simpa [dv, ht] using q
  obtain ⟨U, u, h1, h2⟩ := nx T.heap.size T' vm0 k0 locs ok X' hS (by rw [e']; exact Nat.le_trans hk E.1) hN (by rw [e']; exact hI.push E hD) hL hF
  exact ⟨U, u, st' _ h1, h2⟩
theorem AV.of_new {Z : State} {h : Heap} {cA : ClassId} {z : Int32} (A : Arr Z h a (newA cA t z) t) (hO : ∀ C, t = .object C → Ovr Z cA C) (hB : t = .byte → Z.vm.findClass "[B" = some cA) : AV Z h a true t (List.replicate z.toNatClampNeg (defaultValue t)) := by
  refine ⟨_, A, by simp [newA], ?_, fun v hv => ?_, fun _ => ⟨hO, hB⟩⟩
  · have := Int32.toInt_lt z
    rw [List.length_replicate]; simp only [Int32.toNatClampNeg]; omega
  · rw [List.eq_of_mem_replicate hv]; cases t <;> rfl
theorem W.newP {aty : ArrayType} {z : Int32} (cap : Nat) (wl : (Cond.arrayClass (newarray.typeOf aty)).before G.a0 G.Z = true) (hd : decode code pc = .ok (.newarray aty, 2)) (ht : newarray.typeOf aty = t) (hz : ¬ z < 0) (hcap : z.toNatClampNeg ≤ cap) (hb8 : cap * 8 ≤ 536870912)
    (hv : List.replicate z.toNatClampNeg (defaultValue t) = vs) (hc : cells + 1 ≤ R.cells) (hs : slots + cap ≤ R.slots)
    (nx : ∀ a, W G K y code ret R Q ((a, true, arr t vs) :: As) Li (cells + 1) (slots + cap) (pc + 2) Ls (.ref a :: st)) : W G K y code ret R Q As Li cells slots pc Ls (.int z :: st) := by
  intro T vm0 k0 locs ok X hS hk hN hI hL hF
  obtain ⟨T', h', cA, X', e', E, A, Ex, st'⟩ := Jvm.RoadKit.newPE X ok.1 (ok_Z ok hS) wl rfl (g := mkF K.m pc Ls.toArray (.int z :: st)) rfl (hb ok.2.1 hd) rfl hz hcap hb8 hc hs rfl
  have hD : Des G.Z G.a0 h' T.heap.size true (arr t vs) := by
    subst hv; subst ht
    exact AV.of_new A (fun C e => by cases aty <;> cases e) (fun e => by
      obtain ⟨c2, k2, x1, x2, -⟩ := Ex
      cases A.1.symm.trans x1
      rw [e] at x2
      exact x2)
  obtain ⟨U, u, h1, h2⟩ := nx T.heap.size T' vm0 k0 locs ok X' hS (by rw [e']; exact Nat.le_trans hk E.1) hN (by rw [e']; exact hI.push E hD) hL hF
  exact ⟨U, u, st' _ h1, h2⟩
theorem W.newR {z : Int32} (cap : Nat) (wl : (Cond.classLink y.cls idx C).before G.a0 G.Z = true) (wo : (Cond.arrayOver (.object C)).before G.a0 G.Z = true) (hd : decode code pc = .ok (.anewarray idx, 3)) (hz : ¬ z < 0) (hcap : z.toNatClampNeg ≤ cap) (hb8 : cap * 8 ≤ 536870912)
    (hv : List.replicate z.toNatClampNeg Value.null = vs) (hc : cells + 1 ≤ R.cells) (hs : slots + cap ≤ R.slots)
    (nx : ∀ a, W G K y code ret R Q ((a, true, arr (.object C) vs) :: As) Li (cells + 1) (slots + cap) (pc + 3) Ls (.ref a :: st)) : W G K y code ret R Q As Li cells slots pc Ls (.int z :: st) := by
  intro T vm0 k0 locs ok X hS hk hN hI hL hF
  obtain ⟨T', h', cA, X', e', E, A, O, st'⟩ := Jvm.RoadKit.newR X ok.1 (ok_Z ok hS) (ok_own ok hS) wl wo rfl (g := mkF K.m pc Ls.toArray (.int z :: st)) rfl (hb ok.2.1 hd) rfl hz hcap hb8 hc hs
  have hD : Des G.Z G.a0 h' T.heap.size true (arr (.object C) vs) := by
    subst hv
    exact AV.of_new A (fun C' e => by cases e; exact O) (fun e => by cases e)
  obtain ⟨U, u, h1, h2⟩ := nx T.heap.size T' vm0 k0 locs ok X' hS (by rw [e']; exact Nat.le_trans hk E.1) hN (by rw [e']; exact hI.push E hD) hL hF
  exact ⟨U, u, st' _ h1, h2⟩
/-! ### arrays -/
theorem size_of {c : Cell} (e : c.slots.toList = vs) : c.slots.size = vs.length := by rw [← e]; simp
/-- what the walk knows of an array: its own, or one that stood at the start -/
def AVin (G : Gx) (As : List Ent) (a : Addr) (t : FieldType) (vs : List Value) : Prop := (∃ w, (a, w, arr t vs) ∈ As) ∨ AV G.Z G.Z.heap a false t vs
theorem AVin.mem (hm : (a, w, arr t vs) ∈ As) : AVin G As a t vs := Or.inl ⟨w, hm⟩
theorem AVin.old (A : AV G.Z G.Z.heap a false t vs) : AVin G As a t vs := Or.inr A
theorem AVin.get {h : Heap} (q : AVin G As a t vs) (I : Inv G As h) : AV G.Z h a false t vs := by
  rcases q with ⟨w, hm⟩ | ⟨c, A, r⟩
  · obtain ⟨c, A, e1, e2, e3, -⟩ := I.av hm
    exact ⟨c, A, e1, e2, e3, fun q => nomatch q⟩
  · exact ⟨c, A.ext I.old, r⟩
theorem W.alen {z : Int32} (hd : decode code pc = .ok (.arraylength, 1)) (hm : AVin G As a t vs) (hz : vs.length.toInt32 = z) (nx : W G K y code ret R Q As Li cells slots (pc + 1) Ls (.int z :: st)) : W G K y code ret R Q As Li cells slots pc Ls (.ref a :: st) := by
  intro T vm0 k0 locs ok X hS hk hN hI hL hF
  obtain ⟨c, A, e1, e2, e3, e4⟩ := hm.get hI
  obtain ⟨U, u, h1, h2⟩ := nx T vm0 k0 locs ok X hS hk hN hI hL hF
  refine ⟨U, u, X.arraylength ok.1 A.1 (State.isArrayOf_alike (ok_Z ok hS).alike A.2.1) (g := mkF K.m pc Ls.toArray (.ref a :: st)) rfl rfl (hb ok.2.1 hd) _ ?_, h2⟩
  rw [size_of e1, hz]; exact h1
theorem in_of {c : Cell} {j : Int32} (e : c.slots.toList = vs) (hj : ¬ j < 0) (hv : vs[j.toNatClampNeg]? = some v) : ¬ (j < 0 ∨ c.slots.size ≤ j.toNatClampNeg) ∧ c.slots[j.toNatClampNeg]? = some v := by
  refine ⟨fun q => q.elim hj fun r => ?_, ?_⟩
  · rw [size_of e] at r; exact absurd (List.getElem?_eq_some_iff.mp hv).1 (Nat.not_lt.mpr r)
  · rw [← Array.getElem?_toList, e]; exact hv
theorem W.iaload {j : Int32} (hd : decode code pc = .ok (.iaload, 1)) (hm : AVin G As a .int vs) (hj : ¬ j < 0) (hv : vs[j.toNatClampNeg]? = some v) (nx : W G K y code ret R Q As Li cells slots (pc + 1) Ls (v :: st)) : W G K y code ret R Q As Li cells slots pc Ls (.int j :: .ref a :: st) := by
  intro T vm0 k0 locs ok X hS hk hN hI hL hF
  obtain ⟨c, A, e1, -⟩ := hm.get hI
  obtain ⟨i1, i2⟩ := in_of e1 hj hv
  obtain ⟨U, u, h1, h2⟩ := nx T vm0 k0 locs ok X hS hk hN hI hL hF
  exact ⟨U, u, X.iaload ok.1 A.1 (State.isArrayOf_alike (ok_Z ok hS).alike A.2.1) A.2.2 i1 i2 (g := mkF K.m pc Ls.toArray (.int j :: .ref a :: st)) rfl rfl (hb ok.2.1 hd) _ h1, h2⟩
theorem W.laload {j : Int32} (hd : decode code pc = .ok (.laload, 1)) (hm : AVin G As a .long vs) (hj : ¬ j < 0) (hv : vs[j.toNatClampNeg]? = some v) (nx : W G K y code ret R Q As Li cells slots (pc + 1) Ls (v :: st)) : W G K y code ret R Q As Li cells slots pc Ls (.int j :: .ref a :: st) := by
  intro T vm0 k0 locs ok X hS hk hN hI hL hF
  obtain ⟨c, A, e1, -⟩ := hm.get hI
  obtain ⟨i1, i2⟩ := in_of e1 hj hv
  obtain ⟨U, u, h1, h2⟩ := nx T vm0 k0 locs ok X hS hk hN hI hL hF
  exact ⟨U, u, X.laload ok.1 A.1 (State.isArrayOf_alike (ok_Z ok hS).alike A.2.1) A.2.2 i1 i2 (g := mkF K.m pc Ls.toArray (.int j :: .ref a :: st)) rfl rfl (hb ok.2.1 hd) _ h1, h2⟩
theorem W.caload {j : Int32} (hd : decode code pc = .ok (.caload, 1)) (hm : AVin G As a .char vs) (hj : ¬ j < 0) (hv : vs[j.toNatClampNeg]? = some v) (nx : W G K y code ret R Q As Li cells slots (pc + 1) Ls (v :: st)) : W G K y code ret R Q As Li cells slots pc Ls (.int j :: .ref a :: st) := by
  intro T vm0 k0 locs ok X hS hk hN hI hL hF
  obtain ⟨c, A, e1, -⟩ := hm.get hI
  obtain ⟨i1, i2⟩ := in_of e1 hj hv
  obtain ⟨U, u, h1, h2⟩ := nx T vm0 k0 locs ok X hS hk hN hI hL hF
  exact ⟨U, u, X.caload ok.1 A.1 (State.isArrayOf_alike (ok_Z ok hS).alike A.2.1) A.2.2 i1 i2 (g := mkF K.m pc Ls.toArray (.int j :: .ref a :: st)) rfl rfl (hb ok.2.1 hd) _ h1, h2⟩
theorem W.saload {j : Int32} (hd : decode code pc = .ok (.saload, 1)) (hm : AVin G As a .short vs) (hj : ¬ j < 0) (hv : vs[j.toNatClampNeg]? = some v) (nx : W G K y code ret R Q As Li cells slots (pc + 1) Ls (v :: st)) : W G K y code ret R Q As Li cells slots pc Ls (.int j :: .ref a :: st) := by
  intro T vm0 k0 locs ok X hS hk hN hI hL hF
  obtain ⟨c, A, e1, -⟩ := hm.get hI
  obtain ⟨i1, i2⟩ := in_of e1 hj hv
  obtain ⟨U, u, h1, h2⟩ := nx T vm0 k0 locs ok X hS hk hN hI hL hF
  exact ⟨U, u, X.saload ok.1 A.1 (State.isArrayOf_alike (ok_Z ok hS).alike A.2.1) A.2.2 i1 i2 (g := mkF K.m pc Ls.toArray (.int j :: .ref a :: st)) rfl rfl (hb ok.2.1 hd) _ h1, h2⟩
theorem W.baload {j : Int32} (hd : decode code pc = .ok (.baload, 1)) (hm : AVin G As a .byte vs) (hj : ¬ j < 0) (hv : vs[j.toNatClampNeg]? = some v) (nx : W G K y code ret R Q As Li cells slots (pc + 1) Ls (v :: st)) : W G K y code ret R Q As Li cells slots pc Ls (.int j :: .ref a :: st) := by
  intro T vm0 k0 locs ok X hS hk hN hI hL hF
  obtain ⟨c, A, e1, -⟩ := hm.get hI
  obtain ⟨i1, i2⟩ := in_of e1 hj hv
  obtain ⟨U, u, h1, h2⟩ := nx T vm0 k0 locs ok X hS hk hN hI hL hF
  exact ⟨U, u, X.baloadBytes ok.1 A.1 (State.isArrayOf_alike (ok_Z ok hS).alike A.2.1) A.2.2 i1 i2 (g := mkF K.m pc Ls.toArray (.int j :: .ref a :: st)) rfl rfl (hb ok.2.1 hd) _ h1, h2⟩
theorem W.aaload {j : Int32} (hd : decode code pc = .ok (.aaload, 1)) (hm : AVin G As a t vs) (hr : t.isReference = true) (hj : ¬ j < 0) (hv : vs[j.toNatClampNeg]? = some v) (nx : W G K y code ret R Q As Li cells slots (pc + 1) Ls (v :: st)) : W G K y code ret R Q As Li cells slots pc Ls (.int j :: .ref a :: st) := by
  intro T vm0 k0 locs ok X hS hk hN hI hL hF
  obtain ⟨c, A, e1, -⟩ := hm.get hI
  obtain ⟨i1, i2⟩ := in_of e1 hj hv
  obtain ⟨U, u, h1, h2⟩ := nx T vm0 k0 locs ok X hS hk hN hI hL hF
  exact ⟨U, u, X.aaload ok.1 A.1 (State.isArrayOf_alike (ok_Z ok hS).alike A.2.1) hr A.2.2 i1 i2 (g := mkF K.m pc Ls.toArray (.int j :: .ref a :: st)) rfl rfl (hb ok.2.1 hd) _ h1, h2⟩
theorem W.iastore {j z : Int32} {i : Nat} {u : Value} (hd : decode code pc = .ok (.iastore, 1)) (hj : ¬ j < 0) (hi : j.toNatClampNeg = i) (hl : i < vs.length) (hu : (.int z) = u) (hv : vs.set i u = vs') (up : Upd As a (arr .int vs) (arr .int vs') As')
    (nx : W G K y code ret R Q As' Li cells slots (pc + 1) Ls st) : W G K y code ret R Q As Li cells slots pc Ls (.int z :: .int j :: .ref a :: st) := by
  intro T vm0 k0 locs ok X hS hk hN hI hL hF
  have hm := up.mem
  obtain ⟨c, A, e1, e2, e3, e4⟩ := hI.av hm
  subst hi; subst hu; subst hv
  have i1 : ¬ (j < 0 ∨ c.slots.size ≤ j.toNatClampNeg) := fun q => q.elim hj fun r => by rw [size_of e1] at r; exact absurd hl (Nat.not_lt.mpr r)
  obtain ⟨T', h', X', e', W', st'⟩ := stI X ok.1 (ok_Z ok hS) rfl A i1 (g := mkF K.m pc Ls.toArray (.int z :: .int j :: .ref a :: st)) rfl rfl (hb ok.2.1 hd)
  obtain ⟨U, u', h1, h2⟩ := nx T' vm0 k0 _ ok X' hS (by rw [e', W'.size]; exact hk) hN (by rw [e']; exact hI.wrA A up rfl W') hL (Fr.snoc X' hF ((hI.2.2 _ hm).1 rfl))
  exact ⟨U, u', st' _ h1, h2⟩
theorem W.castore {j z : Int32} {i : Nat} {u : Value} (hd : decode code pc = .ok (.castore, 1)) (hj : ¬ j < 0) (hi : j.toNatClampNeg = i) (hl : i < vs.length) (hu : (.int (nar .char z)) = u) (hv : vs.set i u = vs') (up : Upd As a (arr .char vs) (arr .char vs') As')
    (nx : W G K y code ret R Q As' Li cells slots (pc + 1) Ls st) : W G K y code ret R Q As Li cells slots pc Ls (.int z :: .int j :: .ref a :: st) := by
  intro T vm0 k0 locs ok X hS hk hN hI hL hF
  have hm := up.mem
  obtain ⟨c, A, e1, e2, e3, e4⟩ := hI.av hm
  subst hi; subst hu; subst hv
  have i1 : ¬ (j < 0 ∨ c.slots.size ≤ j.toNatClampNeg) := fun q => q.elim hj fun r => by rw [size_of e1] at r; exact absurd hl (Nat.not_lt.mpr r)
  obtain ⟨T', h', X', e', W', st'⟩ := stC X ok.1 (ok_Z ok hS) rfl A i1 (g := mkF K.m pc Ls.toArray (.int z :: .int j :: .ref a :: st)) rfl rfl (hb ok.2.1 hd)
  obtain ⟨U, u', h1, h2⟩ := nx T' vm0 k0 _ ok X' hS (by rw [e', W'.size]; exact hk) hN (by rw [e']; exact hI.wrA A up (fits_nar_char _) W') hL (Fr.snoc X' hF ((hI.2.2 _ hm).1 rfl))
  exact ⟨U, u', st' _ h1, h2⟩
theorem W.bastore {j z : Int32} {i : Nat} {u : Value} (hd : decode code pc = .ok (.bastore, 1)) (hj : ¬ j < 0) (hi : j.toNatClampNeg = i) (hl : i < vs.length) (hu : (.int (nar .byte z)) = u) (hv : vs.set i u = vs') (up : Upd As a (arr .byte vs) (arr .byte vs') As')
    (nx : W G K y code ret R Q As' Li cells slots (pc + 1) Ls st) : W G K y code ret R Q As Li cells slots pc Ls (.int z :: .int j :: .ref a :: st) := by
  intro T vm0 k0 locs ok X hS hk hN hI hL hF
  have hm := up.mem
  obtain ⟨c, A, e1, e2, e3, e4⟩ := hI.av hm
  subst hi; subst hu; subst hv
  have i1 : ¬ (j < 0 ∨ c.slots.size ≤ j.toNatClampNeg) := fun q => q.elim hj fun r => by rw [size_of e1] at r; exact absurd hl (Nat.not_lt.mpr r)
  obtain ⟨T', h', X', e', W', st'⟩ := stB X ok.1 (ok_Z ok hS) rfl A i1 (g := mkF K.m pc Ls.toArray (.int z :: .int j :: .ref a :: st)) rfl rfl (hb ok.2.1 hd)
  obtain ⟨U, u', h1, h2⟩ := nx T' vm0 k0 _ ok X' hS (by rw [e', W'.size]; exact hk) hN (by rw [e']; exact hI.wrA A up (fits_nar_byte _) W') hL (Fr.snoc X' hF ((hI.2.2 _ hm).1 rfl))
  exact ⟨U, u', st' _ h1, h2⟩
theorem W.sastore {j z : Int32} {i : Nat} {u : Value} (hd : decode code pc = .ok (.sastore, 1)) (hj : ¬ j < 0) (hi : j.toNatClampNeg = i) (hl : i < vs.length) (hu : (.int (nar .short z)) = u) (hv : vs.set i u = vs') (up : Upd As a (arr .short vs) (arr .short vs') As')
    (nx : W G K y code ret R Q As' Li cells slots (pc + 1) Ls st) : W G K y code ret R Q As Li cells slots pc Ls (.int z :: .int j :: .ref a :: st) := by
  intro T vm0 k0 locs ok X hS hk hN hI hL hF
  have hm := up.mem
  obtain ⟨c, A, e1, e2, e3, e4⟩ := hI.av hm
  subst hi; subst hu; subst hv
  have i1 : ¬ (j < 0 ∨ c.slots.size ≤ j.toNatClampNeg) := fun q => q.elim hj fun r => by rw [size_of e1] at r; exact absurd hl (Nat.not_lt.mpr r)
  obtain ⟨T', h', X', e', W', st'⟩ := stS X ok.1 (ok_Z ok hS) rfl A i1 (g := mkF K.m pc Ls.toArray (.int z :: .int j :: .ref a :: st)) rfl rfl (hb ok.2.1 hd)
  obtain ⟨U, u', h1, h2⟩ := nx T' vm0 k0 _ ok X' hS (by rw [e', W'.size]; exact hk) hN (by rw [e']; exact hI.wrA A up (fits_nar_short _) W') hL (Fr.snoc X' hF ((hI.2.2 _ hm).1 rfl))
  exact ⟨U, u', st' _ h1, h2⟩
/-! ### casts -/
/-- what the walk knows of an object's class: its own, or one that stood at the start -/
def Is (G : Gx) (As : List Ent) (a : Addr) (C : String) : Prop := (∃ w fs vs, (a, w, obj C fs vs) ∈ As) ∨ Exa G.Z G.Z.heap a C
theorem Is.mem (hm : (a, w, obj C fs vs) ∈ As) : Is G As a C := Or.inl ⟨w, fs, vs, hm⟩
theorem Is.old (E : Exa G.Z G.Z.heap a C) : Is G As a C := Or.inr E
theorem Is.exa {h : Heap} (q : Is G As a C) (I : Inv G As h) : Exa G.Z h a C := by
  rcases q with ⟨w, fs, vs, hm⟩ | E
  · exact I.exa hm
  · exact E.ext I.old
/-- a reference array takes a reference (aastore's own test): null, or an object of a class that may lie there -/
theorem W.aastore {j : Int32} {i : Nat} (hd : decode code pc = .ok (.aastore, 1)) (hj : ¬ j < 0) (hi : j.toNatClampNeg = i) (hl : i < vs.length) (hr : x = .null ∨ ∃ o D, x = .ref o ∧ Is G As o D ∧ (D = C ∨ (Cond.castable D C).before G.a0 G.Z = true)) (hv : vs.set i x = vs') (up : Upd As a (arr (.object C) vs) (arr (.object C) vs') As')
    (nx : W G K y code ret R Q As' Li cells slots (pc + 1) Ls st) : W G K y code ret R Q As Li cells slots pc Ls (x :: .int j :: .ref a :: st) := by
  intro T vm0 k0 locs ok X hS hk hN hI hL hF
  have hm := up.mem
  obtain ⟨c, A, e1, e2, e3, e4⟩ := hI.av hm
  subst hi; subst hv
  have i1 : ¬ (j < 0 ∨ c.slots.size ≤ j.toNatClampNeg) := fun q => q.elim hj fun r => by rw [size_of e1] at r; exact absurd hl (Nat.not_lt.mpr r)
  have S : Sto G.Z T.heap a x := by
    rcases hr with rfl | ⟨o, D, rfl, q, rfl | q'⟩
    · exact Or.inl rfl
    · exact Sto.of A ((e4 rfl).1 _ rfl) (Ins.self (q.exa hI))
    · exact Sto.of A ((e4 rfl).1 _ rfl) (Ins.of_exa (q.exa hI) q')
  have hfx : fits (.object C) x = true := by rcases hr with rfl | ⟨o, D, rfl, -⟩ <;> rfl
  obtain ⟨T', h', X', e', W', st'⟩ := stR X ok.1 (ok_Z ok hS) rfl A i1 rfl S (g := mkF K.m pc Ls.toArray (x :: .int j :: .ref a :: st)) rfl rfl (hb ok.2.1 hd)
  obtain ⟨U, u', h1, h2⟩ := nx T' vm0 k0 _ ok X' hS (by rw [e', W'.size]; exact hk) hN (by rw [e']; exact hI.wrA A up hfx W') hL (Fr.snoc X' hF ((hI.2.2 _ hm).1 rfl))
  exact ⟨U, u', st' _ h1, h2⟩
theorem W.castN {g : Nat} (hd : decode code pc = .ok (.checkcast idx, 3)) (nx : W G K y code ret R Q As Li cells slots (pc + 3) Ls (.null :: st)) : W G K y code ret R Q As Li cells slots pc Ls (.null :: st) := by
  intro T vm0 k0 locs ok X hS hk hN hI hL hF
  obtain ⟨U, u, h1, h2⟩ := nx T vm0 k0 locs ok X hS hk hN hI hL hF
  exact ⟨U, u, X.checkcastNull ok.1 (g := mkF K.m pc Ls.toArray (.null :: st)) rfl rfl (hb ok.2.1 hd) _ h1, h2⟩
theorem W.instNull (hd : decode code pc = .ok (.instanceof idx, 3)) (nx : W G K y code ret R Q As Li cells slots (pc + 3) Ls (.int 0 :: st)) : W G K y code ret R Q As Li cells slots pc Ls (.null :: st) := by
  intro T vm0 k0 locs ok X hS hk hN hI hL hF
  obtain ⟨U, u, h1, h2⟩ := nx T vm0 k0 locs ok X hS hk hN hI hL hF
  exact ⟨U, u, X.instanceofNull ok.1 (g := mkF K.m pc Ls.toArray (.null :: st)) rfl rfl (hb ok.2.1 hd) _ h1, h2⟩
theorem W.cast {D : String} (wl : (Cond.classLink y.cls idx D).before G.a0 G.Z = true) (hd : decode code pc = .ok (.checkcast idx, 3)) (hm : Is G As a C) (hc : C = D ∨ (Cond.castable C D).before G.a0 G.Z = true)
    (nx : W G K y code ret R Q As Li cells slots (pc + 3) Ls (.ref a :: st)) : W G K y code ret R Q As Li cells slots pc Ls (.ref a :: st) := by
  intro T vm0 k0 locs ok X hS hk hN hI hL hF
  have E := hm.exa hI
  have F : Ins G.Z T.heap a D true := hc.elim (fun e => by subst e; exact Ins.self E) (fun q => Ins.of_exa E q)
  obtain ⟨T', X', e', st'⟩ := castY X ok.1 (ok_Z ok hS) (ok_own ok hS) wl rfl F (g := mkF K.m pc Ls.toArray (.ref a :: st)) rfl rfl (hb ok.2.1 hd)
  obtain ⟨U, u, h1, h2⟩ := nx T' vm0 k0 locs ok X' hS (by rw [e']; exact hk) hN (by rw [e']; exact hI) hL hF
  exact ⟨U, u, st' _ h1, h2⟩
theorem W.inst {D : String} (wl : (Cond.classLink y.cls idx D).before G.a0 G.Z = true) (hd : decode code pc = .ok (.instanceof idx, 3)) (hm : Is G As a C) (hc : C = D ∨ (Cond.castable C D).before G.a0 G.Z = true)
    (nx : W G K y code ret R Q As Li cells slots (pc + 3) Ls (.int 1 :: st)) : W G K y code ret R Q As Li cells slots pc Ls (.ref a :: st) := by
  intro T vm0 k0 locs ok X hS hk hN hI hL hF
  have E := hm.exa hI
  have F : Ins G.Z T.heap a D true := hc.elim (fun e => by subst e; exact Ins.self E) (fun q => Ins.of_exa E q)
  obtain ⟨T', X', e', st'⟩ := instY X ok.1 (ok_Z ok hS) (ok_own ok hS) wl rfl F (g := mkF K.m pc Ls.toArray (.ref a :: st)) rfl rfl (hb ok.2.1 hd)
  obtain ⟨U, u, h1, h2⟩ := nx T' vm0 k0 locs ok X' hS (by rw [e']; exact hk) hN (by rw [e']; exact hI) hL hF
  exact ⟨U, u, st' _ h1, h2⟩
theorem W.instNo {D : String} (wl : (Cond.classLink y.cls idx D).before G.a0 G.Z = true) (hd : decode code pc = .ok (.instanceof idx, 3)) (hm : Is G As a C) (hc : ∃ c t, G.Z.vm.findClass C = some c ∧ G.Z.vm.findClass D = some t ∧ G.Z.vm.assignable c t = false)
    (nx : W G K y code ret R Q As Li cells slots (pc + 3) Ls (.int 0 :: st)) : W G K y code ret R Q As Li cells slots pc Ls (.ref a :: st) := by
  intro T vm0 k0 locs ok X hS hk hN hI hL hF
  obtain ⟨T', X', e', st'⟩ := Jvm.RoadKit.instNo X ok.1 (ok_Z ok hS) (ok_own ok hS) wl rfl (hm.exa hI) hc (g := mkF K.m pc Ls.toArray (.ref a :: st)) rfl rfl (hb ok.2.1 hd)
  obtain ⟨U, u, h1, h2⟩ := nx T' vm0 k0 locs ok X' hS (by rw [e']; exact hk) hN (by rw [e']; exact hI) hL hF
  exact ⟨U, u, st' _ h1, h2⟩
theorem W.ldcI {z : Int32} (wl : (Cond.constant y.cls idx z).before G.a0 G.Z = true) (hd : decode code pc = .ok (.ldc idx, 2)) (nx : W G K y code ret R Q As Li cells slots (pc + 2) Ls (.int z :: st)) : W G K y code ret R Q As Li cells slots pc Ls st := by
  intro T vm0 k0 locs ok X hS hk hN hI hL hF
  obtain ⟨U, u, h1, h2⟩ := nx T vm0 k0 locs ok X hS hk hN hI hL hF
  exact ⟨U, u, X.ldcInt ok.1 (ok_own ok hS) (mvT (ok_Z ok hS) wl) (g := mkF K.m pc Ls.toArray st) rfl (hb ok.2.1 hd) _ h1, h2⟩
theorem W.ldcJ {z : Int64} (wl : (Cond.constantLong y.cls idx z).before G.a0 G.Z = true) (hd : decode code pc = .ok (.ldc2_w idx, 3)) (nx : W G K y code ret R Q As Li cells slots (pc + 3) Ls (.long z :: st)) : W G K y code ret R Q As Li cells slots pc Ls st := by
  intro T vm0 k0 locs ok X hS hk hN hI hL hF
  obtain ⟨U, u, h1, h2⟩ := nx T vm0 k0 locs ok X hS hk hN hI hL hF
  exact ⟨U, u, X.ldc2Long ok.1 (ok_own ok hS) (mvT (ok_Z ok hS) wl) (g := mkF K.m pc Ls.toArray st) rfl (hb ok.2.1 hd) _ h1, h2⟩
/-! ### returns -/
theorem W.ret0 {T : State} {vm0 : Vm} {k0 : Nat} {locs : List Loc} (u : Option Value) (X : Stand K.p G.l K.e R (K.s.setVm vm0) K.m K.args K.below K.meth K.c T locs cells slots) (hS : K.s.Since vm0 k0) (hk : k0 ≤ T.heap.size) (hN : G.nw = true → K.s.WarmedH vm0) (hI : Inv G As T.heap) (hL : LI G.Z vm0 Li) (hF : Fr G.Z.heap.size locs)
    (hlk : K.meth.locks = false) (hv : K.meth.sig.returnType = none → u = none) (hq : Q u As Li) (hc : cells ≤ R.cells) (hs : slots ≤ R.slots) {t : State}
    (stp : ∀ fs, (∀ (f : JFrame) (acts : List Action), f.method = K.m → f.locked = none → f.entered = [] → (doReturn K.e (T.setTop f) acts u).1 = T.setFrames fs) → Steps K.p.tables K.e K.below t (T.setFrames fs)) : Fini G K R Q t := by
  obtain ⟨fs, hr, hrun, hended, e1, e2, e3, e4⟩ := X.leaveW hS hk (v := u) hv hlk
  exact ⟨T.setFrames fs, u, stp fs hr, hrun, hended, locs, As, Li, hq, hI, hL.warm X.warmed, hF, ⟨e1, e2, e3, e4.mono hc hs⟩, fun nw => State.WarmedH.trans (t := K.s.setVm vm0) (hN nw) X.warmed⟩
theorem W.vret (hd : decode code pc = .ok (.return_, 1)) (hr : ret = none) (hq : Q none As Li) (hc : cells ≤ R.cells) (hs : slots ≤ R.slots) : W G K y code ret R Q As Li cells slots pc Ls [] := by
  intro T vm0 k0 locs ok X hS hk hN hI hL hF
  obtain ⟨ox, ob, -, -, -, -, ort, olk, -⟩ := ok
  exact W.ret0 none X hS hk hN hI hL hF olk (fun _ => rfl) hq hc hs fun fs h => X.returnOut ox (ort.trans hr) (hb ob hd) h
theorem W.iret {z : Int32} {tt : FieldType} (hd : decode code pc = .ok (.ireturn, 1)) (hr : ret = some tt) (ht : tt = .int ∨ tt = .boolean ∨ tt = .byte ∨ tt = .char ∨ tt = .short) (hn : narrow tt (.int z) = .int z) (hq : Q (some (.int z)) As Li) (hc : cells ≤ R.cells) (hs : slots ≤ R.slots) : W G K y code ret R Q As Li cells slots pc Ls (.int z :: st) := by
  intro T vm0 k0 locs ok X hS hk hN hI hL hF
  obtain ⟨ox, ob, -, -, -, -, ort, olk, -⟩ := ok
  exact W.ret0 (some (.int z)) X hS hk hN hI hL hF olk (fun q => by rw [ort, hr] at q; cases q) hq hc hs fun fs h => retOut X ox (ort.trans hr) hn (Or.inl ⟨rfl, ht, z, rfl⟩) (hb ob hd) h
theorem W.lret {z : Int64} (hd : decode code pc = .ok (.lreturn, 1)) (hr : ret = some .long) (hq : Q (some (.long z)) As Li) (hc : cells ≤ R.cells) (hs : slots ≤ R.slots) : W G K y code ret R Q As Li cells slots pc Ls (.long z :: st) := by
  intro T vm0 k0 locs ok X hS hk hN hI hL hF
  obtain ⟨ox, ob, -, -, -, -, ort, olk, -⟩ := ok
  exact W.ret0 (some (.long z)) X hS hk hN hI hL hF olk (fun q => by rw [ort, hr] at q; cases q) hq hc hs fun fs h => retOut X ox (ort.trans hr) rfl (Or.inr (Or.inl ⟨rfl, rfl, z, rfl⟩)) (hb ob hd) h
theorem W.aret {tt : FieldType} (hd : decode code pc = .ok (.areturn, 1)) (hr : ret = some tt) (ht : tt.isReference = true) (hx : x.isRef = true) (hq : Q (some x) As Li) (hc : cells ≤ R.cells) (hs : slots ≤ R.slots) : W G K y code ret R Q As Li cells slots pc Ls (x :: st) := by
  intro T vm0 k0 locs ok X hS hk hN hI hL hF
  obtain ⟨ox, ob, -, -, -, -, ort, olk, -⟩ := ok
  have hn : narrow tt x = x := by rcases ref_cases hx with rfl | ⟨_, rfl⟩ <;> cases tt <;> rfl
  exact W.ret0 (some x) X hS hk hN hI hL hF olk (fun q => by rw [ort, hr] at q; cases q) hq hc hs fun fs h => retOut X ox (ort.trans hr) hn (Or.inr (Or.inr (Or.inr (Or.inr ⟨rfl, ht, hx⟩)))) (hb ob hd) h
end Laws
end Jvm.Own
namespace Jvm.Own
open Sem ClassFile Op Lib Jvm.Stand Jvm.Free Jvm.LawKit Jvm.RoadKit
/-! ### contracts and calls -/
/-- the contract of y: called with these arguments over this symbolic heap it returns, as Q says -/
def Ct (G : Gx) (ws : List Jvm.Cond) (y : MethodName) (code : ByteArray) (mL : Nat) (ret : Option FieldType) (R : Room) (args : List Value) (As : List Ent) (Li : List LitE) (Q : Qx) : Prop :=
  MetFree G.l y (head1 (Cond.code y code mL ret :: ws) R) (fun a U => a = args.toArray ∧ G.Z.Warmed39 U.vm ∧ Inv G As U.heap ∧ LI G.Z U.vm Li) (fun _ _ below _ _ => FK G below)
    (fun _ U o U' => ∃ (v : Option Value) (L : List Loc) (As' : List Ent) (Li' : List LitE), o = .returned v ∧ Q v As' Li' ∧ Inv G As' U'.heap ∧ LI G.Z U'.vm Li' ∧ Fr G.Z.heap.size L ∧ ReturnedEndW U o U' L R.cells R.slots ∧ (G.nw = true → U.WarmedH U'.vm))
section Calls
variable {G : Gx} {K : Kx} {y : MethodName} {code : ByteArray} {ret : Option FieldType} {R : Room} {Q : Qx} {As As' : List Ent} {Li Li' : List LitE} {cells slots pc pc' : Nat} {Ls Ls' : List Slot} {st st' : List Value}
theorem Ct.intro {ws : List Jvm.Cond} {mL : Nat} {args : List Value} (hp : plainFor y = true) (he : argsToLocals args.toArray mL = Ls.toArray) (hl : Ls.length = mL) (w : ∀ K, W G K y code ret R Q As Li 0 0 0 Ls []) :
    Ct G ws y code mL ret R args As Li Q := by
  refine MetFree.of_bodySF hp hisR ?_
  intro p e s m args' below meth c s₁ Bd hml0 hP hK
  obtain ⟨rfl, hZ, hI, hL⟩ := hP
  have X0 : Stand p G.l e R s m args.toArray below meth c s₁ [] 0 0 := Stand.of_body Bd
  have e0 : s₁.heap = s.heap := by rw [Bd.state]; rfl
  have ok : Ok G (p, e, s, m, args.toArray, below, meth, c) y code Ls.length ret := ⟨Bd.exec, Bd.bytes, hml0.trans hl.symm, hZ, findClass_of_methodNamed Bd.named, (name_of_methodNamed Bd.named Bd.method).1, Bd.returns, Bd.notSynchronized, Bd.named, hK, hI.1⟩
  obtain ⟨U, v, h1, h2, h3, L, A, I, h4, h5, h6, h7, h8, h9⟩ := w (p, e, s, m, args.toArray, below, meth, c) s₁ s.vm s.heap.size [] ok X0 ((State.WarmedH.refl s).since _) (by rw [e0]; exact Nat.le_refl _) (fun _ => State.WarmedH.refl s) (by rw [e0]; exact hI) hL (Fr.nil _)
  refine ⟨U, .returned v, ?_, h2, h3, v, L, A, I, rfl, h4, h5, h6, h7, h8, h9⟩
  have hE : entryFrame m args.toArray mL = mkF m 0 Ls.toArray [] := by
    show ({ method := m, pc := 0, locals := argsToLocals args.toArray mL, stack := [], locked := none } : JFrame) = _
    rw [he]
  rw [hE]
  exact h1
theorem Ct.weaken {ws : List Jvm.Cond} {mL : Nat} {args : List Value} {Q' : Qx} (h : Ct G ws y code mL ret R args As Li Q) (q : ∀ v A L, Q v A L → Q' v A L) : Ct G ws y code mL ret R args As Li Q' :=
  MetFree.mono h (fun _ _ h => h) (fun _ _ _ _ _ h => h) fun _ _ _ _ _ ⟨v, L, A, I, h1, h2, h3⟩ => ⟨v, L, A, I, h1, q _ _ _ h2, h3⟩
variable {z : MethodName} {code' : ByteArray} {ret' : Option FieldType} {R' : Room} {mL' : Nat} {Q' : Qx} {argsL rest : List Value} {idx : Nat} {sg : MethodDescriptor}
/-- what a call by its contract asks ahead and gives behind -/
abbrev PreC (G : Gx) (As : List Ent) (Li : List LitE) (R R' : Room) (as' : Array Value) : Pt → Array Value → Prop :=
  fun A a => a = as' ∧ Inv G As A.U.heap ∧ LI G.Z A.U.vm Li ∧ A.cells + R'.cells ≤ R.cells ∧ A.slots + R'.slots ≤ R.slots
abbrev PostC (G : Gx) (R' : Room) (Q' : Qx) : Pt → Array Value → Option Value → Pt → Prop :=
  fun A _ v B => ∃ (L : List Loc) (As' : List Ent) (Li' : List LitE), Q' v As' Li' ∧ Inv G As' B.U.heap ∧ LI G.Z B.U.vm Li' ∧ Fr G.Z.heap.size L ∧ (G.nw = true → A.U.WarmedH B.U.vm) ∧ B.locs = A.locs ++ L ∧ B.cells = A.cells + R'.cells ∧ B.slots = A.slots + R'.slots
theorem backC {p : Program} {e : Env} {below : List Frame} {s : State} {sargs : Array Value} {len Wt : Nat} (hfk : FK G below) (hC : Ct G [] z code' mL' ret' R' argsL As Li Q') (hZ : G.Z.Warmed39 s.vm) (wc : (Cond.code z code' mL' ret').before G.a0 G.Z = true) (wz : (Cond.initialized z.cls).before G.a0 G.Z = true)
    (hf : R'.frames + 1 ≤ R.frames) (hl : Wt + (mL' + 11) + R'.locals ≤ R.locals) : BackS G.l R p e below s sargs z len Wt (PreC G As Li R R' argsL.toArray) (PostC G R' Q') :=
  BackS.of_freeWG (bytes := code') (maxL := mL') (ret := ret')
    (E := fun _ first o t L k n => k = R'.cells ∧ n = R'.slots ∧ ∃ v, o = .returned v ∧ ∃ As' Li', Q' v As' Li' ∧ Inv G As' t.heap ∧ LI G.Z t.vm Li' ∧ Fr G.Z.heap.size L ∧ (G.nw = true → first.WarmedH t.vm)) hC hf hl
    (fun m meth c A a Y hp => have hU : G.Z.Warmed39 A.U.vm := wtrans hZ Y.warmed
      ⟨by show (Cond.and _ .tt).before a A.U = true; rw [Cond.before_and, mv hU wc]; rfl, mv hU wc, mv hU wz, hp.2.2.2.1, hp.2.2.2.2⟩)
    (fun m meth c A a g mk Y hp => ⟨hp.1, wtrans hZ Y.warmed, hp.2.1, hp.2.2.1⟩) (fun m meth c A a g mk Y _ hg => hfk.call hZ.alike Y.method hg (by rw [State.frames_setTop' _ Y.here.top, Y.tail]))
    (fun _ _ _ _ ⟨v, L, A, I, h1, h2, h3, h4, h5, h6, h7⟩ => ⟨L, _, _, h6, rfl, rfl, v, h1, A, I, h2, h3, h4, h5, h7⟩)
    (fun m meth c A a g mk v t L k n Y hp _ _ ⟨e1, e2, v', e3, A', I', q1, q2, q3, q4, q5⟩ => by cases e3; subst e1 e2; exact ⟨L, A', I', q1, q2, q3, q4, q5, rfl, rfl, rfl⟩)
theorem W.after {T : State} {vm0 : Vm} {k0 : Nat} {locs : List Loc} {len : Nat} {as' : Array Value} (ok : Ok G K y code Ls.length ret) (hS : K.s.Since vm0 k0) (hk : k0 ≤ T.heap.size) (hN : G.nw = true → K.s.WarmedH vm0) (hF : Fr G.Z.heap.size locs)
    {v : Option Value} {vm₁ : Vm} {B : Pt} (hW1 : (K.s.setVm vm0).WarmedH vm₁) (X' : Stand K.p G.l K.e R ((K.s.setVm vm0).setVm B.U.vm) K.m K.args K.below K.meth K.c B.U B.locs B.cells B.slots) (hS' : (K.s.setVm vm0).Since B.U.vm B.U.heap.size) (hg : T.heap.size ≤ B.U.heap.size)
    (hP : PostC G R' Q' ⟨T.setVm vm₁, locs, cells, slots⟩ as' v B) (stp : Steps K.p.tables K.e K.below (T.setTop (mkF K.m pc Ls.toArray st)) (B.U.setTop (mkF K.m (pc + len) Ls.toArray (v.toList ++ rest))))
    (nx : ∀ v As' Li', Q' v As' Li' → W G K y code ret R Q As' Li' (cells + R'.cells) (slots + R'.slots) (pc + len) Ls (v.toList ++ rest)) : Fini G K R Q (T.setTop (mkF K.m pc Ls.toArray st)) := by
  obtain ⟨U, L, c, n⟩ := B
  obtain ⟨L', A', I', q1, q2, q3, q4, q5, e1, e2, e3⟩ := hP
  dsimp only [Pt.U, Pt.locs, Pt.cells, Pt.slots] at *
  subst e1 e2 e3
  obtain ⟨V, u, h1, h2⟩ := nx v A' I' q1 U U.vm U.heap.size _ ok X' (hS.trans hS' (Nat.le_trans hk hg)) (Nat.le_refl _) (fun nw => State.WarmedH.trans (t := T.setVm vm₁) (State.WarmedH.trans (t := K.s.setVm vm0) (hN nw) hW1) (q5 nw)) q2 q3 (Fr.app hF q4)
  exact ⟨V, u, stp.trans h1, h2⟩
/-- the weight of what lies under a call's arguments -/
abbrev wt (rest : List Value) : Nat := (rest.map fun v => v.category).sum
theorem wt_le (rest : List Value) : 2 * (0 : Nat) + (rest.map fun v => v.category).sum ≤ wt rest := by simp [wt]
theorem W.callS (hC : Ct G [] z code' mL' ret' R' argsL As Li Q') (hd : decode code pc = .ok (.invokestatic idx, 3)) (wl : (Cond.methodLink y.cls idx z).before G.a0 G.Z = true) (ws : (Cond.static z).before G.a0 G.Z = true) (wz : (Cond.initialized z.cls).before G.a0 G.Z = true) (wc : (Cond.code z code' mL' ret').before G.a0 G.Z = true)
    (hy : z.cls ≠ "java/lang/invoke/MethodHandle" ∧ z.cls ≠ "java/lang/invoke/VarHandle") (hp : parseMethodDescriptor z.desc = some sg) (hn : argsL.length = sg.parameters.length) (hst : st = argsL.reverse ++ rest)
    (hf : R'.frames + 1 ≤ R.frames) (hl : wt rest + (mL' + 11) + R'.locals ≤ R.locals) (hc : cells + R'.cells ≤ R.cells) (hs : slots + R'.slots ≤ R.slots)
    (nx : ∀ v As' Li', Q' v As' Li' → W G K y code ret R Q As' Li' (cells + R'.cells) (slots + R'.slots) (pc + 3) Ls (v.toList ++ rest)) : W G K y code ret R Q As Li cells slots pc Ls st := by
  intro T vm0 k0 locs ok X hS hk hN hI hL hF
  have hZ := ok_Z ok hS
  obtain ⟨v, vm₁, B, hW1, X', hS', hg, hP, stp⟩ := callSS X ok.1 (ok_own ok hS) (mvT hZ wl) (mvT hZ ws) (mvT hZ wz) (mvT hZ wc) hy (backC (ok_fk ok) hC hZ wc wz hf hl) (g := mkF K.m pc Ls.toArray st) rfl (by rw [ok.2.2.1]; simp) (argsL := argsL) (rest := rest) (fun sig h => by cases hp.symm.trans h; exact hn) hst (wt_le rest) (hb ok.2.1 hd) (fun vm₁ hw => ⟨rfl, hI, hL.warm hw, hc, hs⟩)
  exact W.after ok hS hk hN hF hW1 X' hS' hg hP stp nx
theorem mvMN {Z s : State} {a0 args : Array Value} {own host : String} {idx : Nat} {x : MethodName} (hZ : Z.Warmed39 s.vm) (w : (Cond.methodLinkNest own idx x host).before a0 Z = true) : (Cond.methodLinkNest own idx x host).before args s = true := (Cond.methodLinkNest_wide hZ w :)
theorem W.callSN {host : String} (hC : Ct G [] z code' mL' ret' R' argsL As Li Q') (hd : decode code pc = .ok (.invokestatic idx, 3)) (wl : (Cond.methodLinkNest y.cls idx z host).before G.a0 G.Z = true) (ws : (Cond.static z).before G.a0 G.Z = true) (wz : (Cond.initialized z.cls).before G.a0 G.Z = true) (wc : (Cond.code z code' mL' ret').before G.a0 G.Z = true)
    (hy : z.cls ≠ "java/lang/invoke/MethodHandle" ∧ z.cls ≠ "java/lang/invoke/VarHandle") (hp : parseMethodDescriptor z.desc = some sg) (hn : argsL.length = sg.parameters.length) (hst : st = argsL.reverse ++ rest)
    (hf : R'.frames + 1 ≤ R.frames) (hl : wt rest + (mL' + 11) + R'.locals ≤ R.locals) (hc : cells + R'.cells ≤ R.cells) (hs : slots + R'.slots ≤ R.slots)
    (nx : ∀ v As' Li', Q' v As' Li' → W G K y code ret R Q As' Li' (cells + R'.cells) (slots + R'.slots) (pc + 3) Ls (v.toList ++ rest)) : W G K y code ret R Q As Li cells slots pc Ls st := by
  intro T vm0 k0 locs ok X hS hk hN hI hL hF
  have hZ := ok_Z ok hS
  obtain ⟨v, vm₁, B, hW1, X', hS', hg, hP, stp⟩ := callSNS X ok.1 (ok_own ok hS) (mvMN hZ wl) (mvT hZ ws) (mvT hZ wz) (mvT hZ wc) hy (backC (ok_fk ok) hC hZ wc wz hf hl) (g := mkF K.m pc Ls.toArray st) rfl (by rw [ok.2.2.1]; simp) (argsL := argsL) (rest := rest) (fun sig h => by cases hp.symm.trans h; exact hn) hst (wt_le rest) (hb ok.2.1 hd) (fun vm₁ hw => ⟨rfl, hI, hL.warm hw, hc, hs⟩)
  exact W.after ok hS hk hN hF hW1 X' hS' hg hP stp nx
variable {a : Addr} {C : String}
/-- a constructor -/
theorem W.callI (hC : Ct G [] z code' mL' none R' (.ref a :: argsL) As Li Q') (hd : decode code pc = .ok (.invokespecial idx, 3)) (h1 : z.name = "<init>") (wl : (Cond.methodLink y.cls idx z).before G.a0 G.Z = true) (wi : (Cond.instanceMethod z).before G.a0 G.Z = true) (wz : (Cond.initialized z.cls).before G.a0 G.Z = true) (wc : (Cond.code z code' mL' none).before G.a0 G.Z = true)
    (hy : z.cls ≠ "java/lang/invoke/MethodHandle" ∧ z.cls ≠ "java/lang/invoke/VarHandle") (hp : parseMethodDescriptor z.desc = some sg) (hn : argsL.length = sg.parameters.length) (hst : st = argsL.reverse ++ .ref a :: rest)
    (hf : R'.frames + 1 ≤ R.frames) (hl : wt rest + (mL' + 11) + R'.locals ≤ R.locals) (hc : cells + R'.cells ≤ R.cells) (hs : slots + R'.slots ≤ R.slots)
    (nx : ∀ v As' Li', Q' v As' Li' → W G K y code ret R Q As' Li' (cells + R'.cells) (slots + R'.slots) (pc + 3) Ls (v.toList ++ rest)) : W G K y code ret R Q As Li cells slots pc Ls st := by
  intro T vm0 k0 locs ok X hS hk hN hI hL hF
  have hZ := ok_Z ok hS
  obtain ⟨v, vm₁, B, hW1, X', hS', hg, hP, stp⟩ := X.specialBackS ok.1 h1 (ok_own ok hS) (mvT hZ wl) (mvT hZ wi) (mvT hZ wc) hy (backC (ok_fk ok) hC hZ wc wz hf hl) (g := mkF K.m pc Ls.toArray st) rfl (by rw [ok.2.2.1]; simp) (Steps.refl _) (a := a) (argsL := argsL) (rest := rest) (fun sig h => by cases hp.symm.trans h; exact hn) hst (wt_le rest) (hb ok.2.1 hd) (fun vm₁ hw => ⟨rfl, hI, hL.warm hw, hc, hs⟩)
  exact W.after ok hS hk hN hF hW1 X' hS' hg hP stp nx
theorem W.callIN {host : String} (hC : Ct G [] z code' mL' none R' (.ref a :: argsL) As Li Q') (hd : decode code pc = .ok (.invokespecial idx, 3)) (h1 : z.name = "<init>") (wl : (Cond.methodLinkNest y.cls idx z host).before G.a0 G.Z = true) (wi : (Cond.instanceMethod z).before G.a0 G.Z = true) (wz : (Cond.initialized z.cls).before G.a0 G.Z = true) (wc : (Cond.code z code' mL' none).before G.a0 G.Z = true)
    (hy : z.cls ≠ "java/lang/invoke/MethodHandle" ∧ z.cls ≠ "java/lang/invoke/VarHandle") (hp : parseMethodDescriptor z.desc = some sg) (hn : argsL.length = sg.parameters.length) (hst : st = argsL.reverse ++ .ref a :: rest)
    (hf : R'.frames + 1 ≤ R.frames) (hl : wt rest + (mL' + 11) + R'.locals ≤ R.locals) (hc : cells + R'.cells ≤ R.cells) (hs : slots + R'.slots ≤ R.slots)
    (nx : ∀ v As' Li', Q' v As' Li' → W G K y code ret R Q As' Li' (cells + R'.cells) (slots + R'.slots) (pc + 3) Ls (v.toList ++ rest)) : W G K y code ret R Q As Li cells slots pc Ls st := by
  intro T vm0 k0 locs ok X hS hk hN hI hL hF
  have hZ := ok_Z ok hS
  obtain ⟨v, vm₁, B, hW1, X', hS', hg, hP, stp⟩ := X.specialBackNestS ok.1 h1 (ok_own ok hS) (mvMN hZ wl) (mvT hZ wi) (mvT hZ wc) hy (backC (ok_fk ok) hC hZ wc wz hf hl) (g := mkF K.m pc Ls.toArray st) rfl (by rw [ok.2.2.1]; simp) (Steps.refl _) (a := a) (argsL := argsL) (rest := rest) (fun sig h => by cases hp.symm.trans h; exact hn) hst (wt_le rest) (hb ok.2.1 hd) (fun vm₁ hw => ⟨rfl, hI, hL.warm hw, hc, hs⟩)
  exact W.after ok hS hk hN hF hW1 X' hS' hg hP stp nx
/-- java.lang.Object's -/
theorem W.callO (hd : decode code pc = .ok (.invokespecial idx, 3)) (wl : (Cond.methodLink y.cls idx Lib.objectInit).before G.a0 G.Z = true) (wi : (Cond.instanceMethod Lib.objectInit).before G.a0 G.Z = true) (wc : (Cond.code Lib.objectInit ⟨#[0xb1]⟩ 1 none).before G.a0 G.Z = true)
    (hf : 1 ≤ R.frames) (hl : wt st + 12 ≤ R.locals) (nx : W G K y code ret R Q As Li cells slots (pc + 3) Ls st) : W G K y code ret R Q As Li cells slots pc Ls (.ref a :: st) := by
  intro T vm0 k0 locs ok X hS hk hN hI hL hF
  obtain ⟨T', X', e', st'⟩ := initO X ok.1 (ok_Z ok hS) (ok_own ok hS) wl wi wc rfl (g := mkF K.m pc Ls.toArray (.ref a :: st)) rfl (by rw [ok.2.2.1]; simp) rfl (hb ok.2.1 hd) hf (wt_le st) hl
  obtain ⟨U, u, h1, h2⟩ := nx T' vm0 k0 locs ok X' hS (by rw [e']; exact hk) hN (by rw [e']; exact hI) hL hF
  exact ⟨U, u, st' _ h1, h2⟩
/-- an instance method that the receiver's class selects; the entry's class x declares it -/
theorem W.callV {x : MethodName} (hC : Ct G [] z code' mL' ret' R' (.ref a :: argsL) As Li Q') (hd : decode code pc = .ok (.invokevirtual idx, 3)) (hm : Is G As a C) (wl : (Cond.methodLink y.cls idx x).before G.a0 G.Z = true) (wd : (Cond.declares x).before G.a0 G.Z = true) (nf : ∀ s : State, G.Z.Warmed39 s.vm → NotFace s x) (wsel : (Cond.selects C x z).before G.a0 G.Z = true)
    (wi : (Cond.instanceMethod z).before G.a0 G.Z = true) (wz : (Cond.initialized z.cls).before G.a0 G.Z = true) (wc : (Cond.code z code' mL' ret').before G.a0 G.Z = true)
    (hy : x.cls ≠ "java/lang/invoke/MethodHandle" ∧ x.cls ≠ "java/lang/invoke/VarHandle") (hp : parseMethodDescriptor x.desc = some sg) (hn : argsL.length = sg.parameters.length) (hst : st = argsL.reverse ++ .ref a :: rest)
    (hf : R'.frames + 1 ≤ R.frames) (hl : wt rest + (mL' + 11) + R'.locals ≤ R.locals) (hc : cells + R'.cells ≤ R.cells) (hs : slots + R'.slots ≤ R.slots)
    (nx : ∀ v As' Li', Q' v As' Li' → W G K y code ret R Q As' Li' (cells + R'.cells) (slots + R'.slots) (pc + 3) Ls (v.toList ++ rest)) : W G K y code ret R Q As Li cells slots pc Ls st := by
  intro T vm0 k0 locs ok X hS hk hN hI hL hF
  have hZ := ok_Z ok hS
  obtain ⟨cB, kB, q1, q2, q3⟩ := isOf (T := T) hZ rfl (hm.exa hI)
  obtain ⟨v, vm₁, B, hW1, X', hS', hg, hP, stp⟩ := X.virtualBackS ok.1 (ok_own ok hS) (mvT hZ wl) (mvT hZ wd) (nf _ hZ) (mvT hZ wsel) (mvT hZ wi) hy (backC (ok_fk ok) hC hZ wc wz hf hl) q1 q3 (g := mkF K.m pc Ls.toArray st) rfl (by rw [ok.2.2.1]; simp) (Steps.refl _) (argsL := argsL) (rest := rest) (fun sig h => by cases hp.symm.trans h; exact hn) hst (wt_le rest) (hb ok.2.1 hd) (fun vm₁ hw => ⟨rfl, hI, hL.warm hw, hc, hs⟩)
  exact W.after ok hS hk hN hF hW1 X' hS' hg hP stp nx
theorem nf_sel {x : MethodName} (w : (Cond.selects C x x).before G.a0 G.Z = true) : ∀ s : State, G.Z.Warmed39 s.vm → NotFace s x := fun s hZ => notFace_of_selects (args := #[]) (mvT hZ w)
theorem nf_sup {x : MethodName} {S : String} (w : (Cond.superclass x.cls S).before G.a0 G.Z = true) : ∀ s : State, G.Z.Warmed39 s.vm → NotFace s x := fun s hZ => nf_super (args := #[]) (mvT hZ w)
theorem nf_tp {x : MethodName} (w : (Cond.noSuperclass x.cls).before G.a0 G.Z = true) : ∀ s : State, G.Z.Warmed39 s.vm → NotFace s x := fun s hZ => nf_top (args := #[]) (mvT hZ w)
/-- .. declared above the entry's class -/
theorem W.callU {x : MethodName} {owner : String} (hC : Ct G [] z code' mL' ret' R' (.ref a :: argsL) As Li Q') (hd : decode code pc = .ok (.invokevirtual idx, 3)) (hm : Is G As a C) (wl : (Cond.methodLink y.cls idx x).before G.a0 G.Z = true) (wsm : (Cond.sameMethod x.cls owner x.name x.desc).before G.a0 G.Z = true) (wd : (Cond.declares ⟨owner, x.name, x.desc⟩).before G.a0 G.Z = true) (ho : owner ≠ "java/lang/invoke/MethodHandle" ∧ owner ≠ "java/lang/invoke/VarHandle") (wsel : (Cond.selects C x z).before G.a0 G.Z = true)
    (wi : (Cond.instanceMethod z).before G.a0 G.Z = true) (wz : (Cond.initialized z.cls).before G.a0 G.Z = true) (wc : (Cond.code z code' mL' ret').before G.a0 G.Z = true)
    (hp : parseMethodDescriptor x.desc = some sg) (hn : argsL.length = sg.parameters.length) (hst : st = argsL.reverse ++ .ref a :: rest)
    (hf : R'.frames + 1 ≤ R.frames) (hl : wt rest + (mL' + 11) + R'.locals ≤ R.locals) (hc : cells + R'.cells ≤ R.cells) (hs : slots + R'.slots ≤ R.slots)
    (nx : ∀ v As' Li', Q' v As' Li' → W G K y code ret R Q As' Li' (cells + R'.cells) (slots + R'.slots) (pc + 3) Ls (v.toList ++ rest)) : W G K y code ret R Q As Li cells slots pc Ls st := by
  intro T vm0 k0 locs ok X hS hk hN hI hL hF
  have hZ := ok_Z ok hS
  obtain ⟨cB, kB, q1, q2, q3⟩ := isOf (T := T) hZ rfl (hm.exa hI)
  obtain ⟨v, vm₁, B, hW1, X', hS', hg, hP, stp⟩ := X.virtualBackUpS ok.1 (ok_own ok hS) (mvT hZ wl) (mvT hZ wsm) (mvT hZ wd) ho (mvT hZ wsel) (mvT hZ wi) (backC (ok_fk ok) hC hZ wc wz hf hl) q1 q3 (g := mkF K.m pc Ls.toArray st) rfl (by rw [ok.2.2.1]; simp) (Steps.refl _) (argsL := argsL) (rest := rest) (fun sig h => by cases hp.symm.trans h; exact hn) hst (wt_le rest) (hb ok.2.1 hd) (fun vm₁ hw => ⟨rfl, hI, hL.warm hw, hc, hs⟩)
  exact W.after ok hS hk hN hF hW1 X' hS' hg hP stp nx
/-- through an interface -/
theorem W.callF {x : MethodName} {cnt : Nat} (hC : Ct G [] z code' mL' ret' R' (.ref a :: argsL) As Li Q') (hd : decode code pc = .ok (.invokeinterface idx cnt, 5)) (hm : Is G As a C) (wl : (Cond.methodLink y.cls idx x).before G.a0 G.Z = true) (wd : (Cond.declares x).before G.a0 G.Z = true) (wf : (Cond.interfaceMethod x.cls x.cls x.name x.desc).before G.a0 G.Z = true) (wsel : (Cond.selects C x z).before G.a0 G.Z = true)
    (wi : (Cond.instanceMethod z).before G.a0 G.Z = true) (wp : (Cond.publicMethod z).before G.a0 G.Z = true) (wu : (Cond.unhidden C x.name x.desc).before G.a0 G.Z = true) (wk : (Cond.castable C x.cls).before G.a0 G.Z = true) (wz : (Cond.initialized z.cls).before G.a0 G.Z = true) (wc : (Cond.code z code' mL' ret').before G.a0 G.Z = true)
    (hy : x.cls ≠ "java/lang/invoke/MethodHandle" ∧ x.cls ≠ "java/lang/invoke/VarHandle") (hfa : ((Cond.interfaceMethod x.cls x.cls x.name x.desc).onTables && (Cond.interfaceMethod x.cls x.cls x.name x.desc).keepsFace) = true) (hp : parseMethodDescriptor x.desc = some sg) (hn : argsL.length = sg.parameters.length) (hst : st = argsL.reverse ++ .ref a :: rest)
    (hf : R'.frames + 1 ≤ R.frames) (hl : wt rest + (mL' + 11) + R'.locals ≤ R.locals) (hc : cells + R'.cells ≤ R.cells) (hs : slots + R'.slots ≤ R.slots)
    (nx : ∀ v As' Li', Q' v As' Li' → W G K y code ret R Q As' Li' (cells + R'.cells) (slots + R'.slots) (pc + 5) Ls (v.toList ++ rest)) : W G K y code ret R Q As Li cells slots pc Ls st := by
  intro T vm0 k0 locs ok X hS hk hN hI hL hF
  have hZ := ok_Z ok hS
  obtain ⟨cB, kB, q1, q2, q3⟩ := isOf (T := T) hZ rfl (hm.exa hI)
  obtain ⟨v, vm₁, B, hW1, X', hS', hg, hP, stp⟩ := X.interfaceBackS ok.1 (ok_own ok hS) (mvT hZ wl) (mvT hZ wd) (mvT hZ wf hfa) (mvT hZ wsel) (mvT hZ wi) (mvT hZ wp) (mvT hZ wu) (mvT hZ wk) hy (backC (ok_fk ok) hC hZ wc wz hf hl) q1 q2 q3 (g := mkF K.m pc Ls.toArray st) rfl (by rw [ok.2.2.1]; simp) (Steps.refl _) (argsL := argsL) (rest := rest) (fun sig h => by cases hp.symm.trans h; exact hn) hst (wt_le rest) (hb ok.2.1 hd) (fun vm₁ hw => ⟨rfl, hI, hL.warm hw, hc, hs⟩)
  exact W.after ok hS hk hN hF hW1 X' hS' hg hP stp nx
/-- a private method by invokevirtual -/
theorem W.callP (hC : Ct G [] z code' mL' ret' R' (.ref a :: argsL) As Li Q') (hd : decode code pc = .ok (.invokevirtual idx, 3)) (hm : Is G As a C) (wl : (Cond.methodLink y.cls idx z).before G.a0 G.Z = true) (wi : (Cond.instanceMethod z).before G.a0 G.Z = true) (wsel : (Cond.selects z.cls z z).before G.a0 G.Z = true) (wp : (Cond.privateMethod z).before G.a0 G.Z = true) (wz : (Cond.initialized z.cls).before G.a0 G.Z = true) (wc : (Cond.code z code' mL' ret').before G.a0 G.Z = true)
    (hy : z.cls ≠ "java/lang/invoke/MethodHandle" ∧ z.cls ≠ "java/lang/invoke/VarHandle") (hp : parseMethodDescriptor z.desc = some sg) (hn : argsL.length = sg.parameters.length) (hst : st = argsL.reverse ++ .ref a :: rest)
    (hf : R'.frames + 1 ≤ R.frames) (hl : wt rest + (mL' + 11) + R'.locals ≤ R.locals) (hc : cells + R'.cells ≤ R.cells) (hs : slots + R'.slots ≤ R.slots)
    (nx : ∀ v As' Li', Q' v As' Li' → W G K y code ret R Q As' Li' (cells + R'.cells) (slots + R'.slots) (pc + 3) Ls (v.toList ++ rest)) : W G K y code ret R Q As Li cells slots pc Ls st := by
  intro T vm0 k0 locs ok X hS hk hN hI hL hF
  have hZ := ok_Z ok hS
  obtain ⟨cl, q1, q2⟩ := (hm.exa hI).cell
  obtain ⟨v, vm₁, B, hW1, X', hS', hg, hP, stp⟩ := X.privateBackS ok.1 (ok_own ok hS) (mvT hZ wl) (mvT hZ wi) (mvT hZ wsel) (Cond.privateMethod_at (mvP hZ wp (args := #[]))) (mvT hZ wc) hy (backC (ok_fk ok) hC hZ wc wz hf hl) (g := mkF K.m pc Ls.toArray st) rfl (by rw [ok.2.2.1]; simp) (Steps.refl _) (a := a) q1 q2 (argsL := argsL) (rest := rest) (fun sig h => by cases hp.symm.trans h; exact hn) hst (wt_le rest) (hb ok.2.1 hd) (fun vm₁ hw => ⟨rfl, hI, hL.warm hw, hc, hs⟩)
  exact W.after ok hS hk hN hF hW1 X' hS' hg hP stp nx
/-- super.m(..) -/
theorem W.callX (hC : Ct G [] z code' mL' ret' R' (.ref a :: argsL) As Li Q') (hd : decode code pc = .ok (.invokespecial idx, 3)) (hm : Is G As a C) (wl : (Cond.methodLink y.cls idx z).before G.a0 G.Z = true) (wsm : (Cond.sameMethod z.cls z.cls z.name z.desc).before G.a0 G.Z = true) (wi : (Cond.instanceMethod z).before G.a0 G.Z = true) (wsup : (Cond.superclass y.cls z.cls).before G.a0 G.Z = true) (hni : z.name ≠ "<init>") (wz : (Cond.initialized z.cls).before G.a0 G.Z = true) (wc : (Cond.code z code' mL' ret').before G.a0 G.Z = true)
    (hp : parseMethodDescriptor z.desc = some sg) (hn : argsL.length = sg.parameters.length) (hst : st = argsL.reverse ++ .ref a :: rest)
    (hf : R'.frames + 1 ≤ R.frames) (hl : wt rest + (mL' + 11) + R'.locals ≤ R.locals) (hc : cells + R'.cells ≤ R.cells) (hs : slots + R'.slots ≤ R.slots)
    (nx : ∀ v As' Li', Q' v As' Li' → W G K y code ret R Q As' Li' (cells + R'.cells) (slots + R'.slots) (pc + 3) Ls (v.toList ++ rest)) : W G K y code ret R Q As Li cells slots pc Ls st := by
  intro T vm0 k0 locs ok X hS hk hN hI hL hF
  have hZ := ok_Z ok hS
  obtain ⟨v, vm₁, B, hW1, X', hS', hg, hP, stp⟩ := superBackS X ok.1 hZ (ok_own ok hS) wl wsm wi wsup hni (backC (ok_fk ok) hC hZ wc wz hf hl) rfl (Ins.self (hm.exa hI)) (g := mkF K.m pc Ls.toArray st) rfl (by rw [ok.2.2.1]; simp) wc (argsL := argsL) (rest := rest) (fun sig h => by cases hp.symm.trans h; exact hn) hst (wt_le rest) (hb ok.2.1 hd) (fun vm₁ hw => ⟨rfl, hI, hL.warm hw, hc, hs⟩)
  exact W.after ok hS hk hN hF hW1 X' hS' hg hP stp nx
end Calls
end Jvm.Own
namespace Jvm.Own
open Sem ClassFile Op Lib Jvm.Stand Jvm.Free Jvm.LawKit Jvm.RoadKit
/-! ### the case's start -/
theorem Inv.start (l : Launch) (s : State) (a0 : Array Value) (b : Bool) : Inv (l, s, a0, b) [] s.heap := ⟨⟨Nat.le_refl _, fun _ _ q => q⟩, List.Pairwise.nil, fun _ h => nomatch h⟩
theorem LI.start (s : State) : LI s s.vm [] := ⟨IB.start, (fun _ h => nomatch h), fun _ h => nomatch h⟩
end Jvm.Own
namespace Jvm.Own
open Sem ClassFile Op Lib Bundle Jvm.Stand Jvm.Free Jvm.Free.SB Jvm.Free.SBG Jvm.LawKit Jvm.RoadKit
/-! ### String constants -/
theorem own_fold (xs : List Cell) : ∀ n : Nat, xs.foldl (fun n c => n + c.slots.size) n = n + (xs.map fun c => c.slots.size).sum := by
  induction xs with
  | nil => intro n; simp
  | cons x xs ih => intro n; simp only [List.foldl_cons, List.map_cons, List.sum_cons]; rw [ih]; omega
theorem own_foldA (h : Heap) : h.foldl (fun n c => n + c.slots.size) 0 = (h.toList.map fun c => c.slots.size).sum := by
  rw [← Array.foldl_toList, own_fold]; omega
theorem own_split {h h' : Heap} (E : Ext h h') : h'.toList = h.toList ++ h'.toList.drop h.size := by
  refine List.ext_getElem? fun i => ?_
  by_cases hi : i < h.size
  · rw [List.getElem?_append_left (by simpa using hi), Array.getElem?_toList, Array.getElem?_toList, Array.getElem?_eq_getElem hi]
    exact E.2 i _ (Array.getElem?_eq_getElem hi)
  · rw [List.getElem?_append_right (by simpa using Nat.le_of_not_lt hi), List.getElem?_drop]
    simp only [Array.length_toList]
    congr 1
    omega
theorem own_sums {h h' : Heap} (E : Ext h h') : (h'.toList.map fun c => c.slots.size).sum = (h.toList.map fun c => c.slots.size).sum + ((h'.toList.drop h.size).map fun c => c.slots.size).sum := by
  conv => lhs; rw [own_split E]
  simp
/-- the invocation, told as if it had begun at the case's own heap -/
abbrev rebS0 (G : Gx) (s : State) (vm0 : Vm) : State := { s with vm := vm0, heap := G.Z.heap, slotsUsed := (G.Z.heap.toList.map fun c => c.slots.size).sum }
theorem rebase {G : Gx} {p : Program} {l : Launch} {e : Env} {R : Room} {s : State} {vm0 : Vm} {m : MethodId} {args : Array Value} {below : List Frame} {meth : Method} {c : Code} {T : State} {locs : List Loc} {cells slots : Nat}
    (X : Stand p l e R (s.setVm vm0) m args below meth c T locs cells slots) (E : Ext G.Z.heap T.heap) (hc : cells ≤ R.cells) (hs : slots ≤ R.slots) :
    Stand p l e { R with cells := (T.heap.size - G.Z.heap.size) + (R.cells - cells), slots := ((T.heap.toList.drop G.Z.heap.size).map fun c => c.slots.size).sum + (R.slots - slots) } (rebS0 G s vm0) m args below meth c T [] (T.heap.size - G.Z.heap.size) ((T.heap.toList.drop G.Z.heap.size).map fun c => c.slots.size).sum := by
  have bk : T.slotsUsed = (T.heap.toList.map fun c => c.slots.size).sum := by
    have h := X.book
    simp only [State.slotsTrue, beq_iff_eq] at h
    rw [h]; exact own_foldA _
  have sm := own_sums E
  have h1 := X.heapSize
  have h2 := X.used
  have hE := E.1
  refine ⟨X.admits, X.cas, X.clock, X.frames, ?_, X.hears, X.method, X.code, X.here, X.tail, X.warmed, X.limits, X.bytes, X.same.1, hE, ?_, ?_, Nat.le_refl _, fun a c h => ⟨c, E.2 a c h, rfl, rfl, fun _ _ => rfl⟩⟩
  · have h := X.room
    simp only [State.hasRoom, Bool.and_eq_true, decide_eq_true_eq] at h ⊢
    obtain ⟨⟨⟨⟨r1, r2⟩, r3⟩, r4⟩, r5⟩ := h
    have r3' : s.heap.size + R.cells ≤ e.platform.maxCells := r3
    have r4' : s.slotsUsed + R.slots ≤ e.platform.maxSlots := r4
    have h1' : T.heap.size ≤ s.heap.size + cells := h1
    have h2' : T.slotsUsed ≤ s.slotsUsed + slots := h2
    refine ⟨⟨⟨⟨r1, r2⟩, ?_⟩, ?_⟩, ?_⟩
    · show G.Z.heap.size + ((T.heap.size - G.Z.heap.size) + (R.cells - cells)) ≤ e.platform.maxCells
      omega
    · show (G.Z.heap.toList.map fun c => c.slots.size).sum + (((T.heap.toList.drop G.Z.heap.size).map fun c => c.slots.size).sum + (R.slots - slots)) ≤ e.platform.maxSlots
      omega
    · show (_ == _) = true
      rw [beq_iff_eq]
      exact (own_foldA _).symm
  · show T.heap.size ≤ G.Z.heap.size + (T.heap.size - G.Z.heap.size)
    omega
  · show T.slotsUsed = (G.Z.heap.toList.map fun c => c.slots.size).sum + _
    rw [bk, sm]; rfl
def litF : List Fd := [("java/lang/String", "value", "[B"), ("java/lang/String", "coder", "B")]
section Laws
variable {G : Gx} {K : Kx} {y : MethodName} {code : ByteArray} {ret : Option FieldType} {R : Room} {Q : Qx} {As As' : List Ent} {Li Li' : List LitE} {cells slots pc pc' : Nat} {Ls Ls' : List Slot} {st st' : List Value} {idx : Nat} {a : Addr}
theorem W.ldcA {text : String} (hd : decode code pc = .ok (.ldc idx, 2)) (w : (Cond.stringLink y.cls idx text).before G.a0 G.Z = true) (hl : (y.cls, idx, text, a) ∈ Li)
    (nx : W G K y code ret R Q As Li cells slots (pc + 2) Ls (.ref a :: st)) : W G K y code ret R Q As Li cells slots pc Ls st := by
  intro T vm0 k0 locs ok X hS hk hN hI hL hF
  obtain ⟨U, u, h1, h2⟩ := nx T vm0 k0 locs ok X hS hk hN hI hL hF
  exact ⟨U, u, ldcAgain X ok.1 (ok_Z ok hS) (ok_own ok hS) w (hL.2.1 _ hl) (g := mkF K.m pc Ls.toArray st) rfl (hb ok.2.1 hd) _ h1, h2⟩
/-- where an interned text of the walk's lies -/
theorem LI.where_ {Z : State} {vm : Vm} {Li : List LitE} {text : String} (L : LI Z vm Li) {units : Array UInt16} {a : Addr} (hu : utf16ToString? units = some text) (hf : vm.interned.find? (fun p => p.1 == units) = some (units, a)) :
    (∃ r ∈ Li, r.2.2.1 = text ∧ r.2.2.2 = a) ∨ Z.vm.interned.find? (fun p => p.1 == units) = some (units, a) := by
  by_cases hm : text ∈ Li.map fun q => q.2.2.1
  · obtain ⟨q, hq, e⟩ := List.mem_map.mp hm
    obtain rfl : q.2.2.1 = text := e
    exact L.2.2 q hq units a hu hf
  · obtain ⟨more, e, hx⟩ := L.1
    rw [e, Array.find?_append] at hf
    cases hs : Z.vm.interned.find? (fun p => p.1 == units) with
    | some pr => rw [hs] at hf; exact Or.inr (by simpa using hf)
    | none =>
      rw [hs, Option.none_or] at hf
      obtain ⟨t, ht, hd⟩ := hx _ (Array.mem_of_find?_eq_some hf)
      cases hu.symm.trans hd
      exact absurd ht hm
/-- the constants of that text that the walk has loaded: each is here, and its signs are vs -/
def LitG (As : List Ent) (Li : List LitE) (text : String) (vs : List Value) : Prop := ∀ q ∈ Li, q.2.2.1 = text → ∃ b, (q.2.2.2, false, obj "java/lang/String" litF [.ref b, .int 0]) ∈ As ∧ (b, false, arr .byte vs) ∈ As
/-- a String as the VM lays one, told in the walk's words -/
theorem sl_des {G : Gx} {U : State} {q : SQ} {cS : ClassId} {units : Array UInt16} {text : String} {vs : List Value} (hal : G.Z.vm.Alike U.vm) (S : Sl q cS U) (hk : ∃ kS : Class, U.vm.classes[cS]? = some kS ∧ kS.kind = .ordinary ∧ q.sC.slots.size = kS.instanceTypes.size)
    (hB' : U.vm.findClass "[B" = some q.SA.cls) (hbyt : q.SA.slots = stringBytes units) (htext : utf16ToString? units = some text) (ht : (∀ c ∈ text.toList, c.toNat < 256) ∧ text.toList.map (fun c => Value.int (Jvm.Lit.byteI c.toNat.toUInt16)) = vs) :
    Des G.Z G.a0 U.heap q.sa false (obj "java/lang/String" litF [.ref q.sd, .int 0]) ∧ Des G.Z G.a0 U.heap q.sd false (arr .byte vs) := by
  obtain ⟨⟨s1, s2, s3, ⟨cv, kv, iv, s4, s4'⟩, ⟨cc, kc, ic, s5, s5'⟩, s6, s7, s8, s9, s10, s11, s12, s13, s14, s15, s16⟩, hfS, hcS⟩ := S
  obtain ⟨kS, k1, k2, k3⟩ := hk
  obtain ⟨kv', z4⟩ := ff_back hal s4
  obtain ⟨kc', z5⟩ := ff_back hal s5
  have hfZ : G.Z.vm.findClass "java/lang/String" = some q.sC.cls := by rw [← hal.findClass, hcS]; exact hfS
  obtain ⟨kz, hkz, -⟩ := Vm.findClass_spec hfZ
  obtain ⟨kz', hkz', ekz⟩ := hal.2.2 _ _ hkz
  have ekS : kz' = kS := Option.some.inj (hkz'.symm.trans (hcS ▸ k1))
  have hBZ : G.Z.vm.findClass "[B" = some q.SA.cls := by rw [← hal.findClass]; exact hB'
  obtain ⟨kb, hkb, -⟩ := Vm.findClass_spec hBZ
  obtain ⟨kb', hkb', ekb⟩ := hal.2.2 _ _ hkb
  obtain ⟨hst, k9, hk9, comp, hkind9⟩ := s11
  have ek9 : k9 = kb' := Option.some.inj (hk9.symm.trans hkb')
  have hAZ : G.Z.isArrayOf q.SA .byte := ⟨hst, kb, hkb, comp, by rw [ek9, ekb] at hkind9; exact hkind9⟩
  have hlat := Jvm.ClassFile.lat_of_text htext ht.1
  have eu : vs = units.toList.map fun u => Value.int (Jvm.Lit.byteI u) := by rw [← ht.2, Jvm.ClassFile.units_of_text htext ht.1, List.map_map]; rfl
  have hsl0 : q.SA.slots = units.map fun u => Value.int (Jvm.Lit.byteI u) := by rw [hbyt, SBG.stringBytes_lat hlat]; rfl
  have hsl : q.SA.slots.toList = vs := by rw [hsl0, eu, Array.toList_map]
  refine ⟨⟨⟨q.sC, kz, s1, hfZ, hkz, s3, fun ho => by rw [k3, ← ekS, ekz]⟩, rfl, fun i f v hf hv => ?_, fun q => nomatch q⟩, ?_⟩
  · match i, hf, hv with
    | 0, hf, hv => cases hf; cases hv; exact ⟨q.sC, cv, kv', iv, q.fSV, s1, z4, s6, s2, s3, by rw [← hal.assignable]; exact s4', s8⟩
    | 1, hf, hv => cases hf; cases hv; exact ⟨q.sC, cc, kc', ic, q.fSC, s1, z5, s7, s2, s3, by rw [← hal.assignable]; exact s5', s9⟩
  · refine ⟨q.SA, ⟨s10, hAZ, s12⟩, hsl, ?_, fun v hv => ?_, fun q => nomatch q⟩
    · rw [← hsl]; simpa [s13] using s14
    · rw [← hsl] at hv
      obtain ⟨i, hi, rfl⟩ := List.getElem_of_mem hv
      have hi' : i < q.SA.slots.size := by simpa using hi
      have := s16 i hi'
      rw [Array.getD_eq_getD_getElem?, Array.getElem?_eq_getElem hi'] at this
      simpa using this
/-- two cells that the walk doesn't own come to its list -/
theorem Inv.two {G : Gx} {As : List Ent} {h : Heap} {a b : Addr} {sc sc' : SC} (I : Inv G As h) (D1 : Des G.Z G.a0 h a false sc) (D2 : Des G.Z G.a0 h b false sc') (far : ∀ e ∈ As, e.2.1 = true → a ≠ e.1 ∧ b ≠ e.1) : Inv G ((a, false, sc) :: (b, false, sc') :: As) h := by
  refine ⟨I.1, ?_, fun e he => ?_⟩
  · refine List.pairwise_cons.mpr ⟨fun p hp hw => ?_, List.pairwise_cons.mpr ⟨fun p hp hw => ?_, I.2.1⟩⟩
    · rcases List.mem_cons.mp hp with rfl | hp
      · rcases hw with hw | hw <;> cases hw
      · obtain ⟨e, he, rfl⟩ := List.mem_map.mp hp
        rcases hw with hw | hw
        · cases hw
        · exact (far e he hw).1
    · obtain ⟨e, he, rfl⟩ := List.mem_map.mp hp
      rcases hw with hw | hw
      · cases hw
      · exact (far e he hw).2
  · rcases List.mem_cons.mp he with rfl | he
    · exact ⟨(fun q => nomatch q), D1⟩
    · rcases List.mem_cons.mp he with rfl | he
      · exact ⟨(fun q => nomatch q), D2⟩
      · exact I.2.2 e he
/-- a frozen cell of the list is none that the walk writes -/
theorem Inv.farF {G : Gx} {As : List Ent} {h : Heap} {a : Addr} {sc : SC} (I : Inv G As h) (hm : (a, false, sc) ∈ As) : ∀ e ∈ As, e.2.1 = true → a ≠ e.1 := fun e he hw => by
  obtain ⟨i, hi, ei⟩ := List.getElem_of_mem hm
  obtain ⟨j, hj, ej⟩ := List.getElem_of_mem he
  obtain ⟨ea, ew, es⟩ := e
  simp only at hw
  subst hw
  rcases Nat.lt_trichotomy i j with q | q | q
  · exact I.ne (by rw [List.getElem?_eq_getElem hi, ei]) (by rw [List.getElem?_eq_getElem hj, ej]) q (Or.inr rfl)
  · subst q; rw [ei] at ej; cases ej
  · exact (I.ne (by rw [List.getElem?_eq_getElem hj, ej]) (by rw [List.getElem?_eq_getElem hi, ei]) q (Or.inl rfl)).symm
/-- 'ldc' of a String constant: whatever has been loaded before, from whatever entry -/
theorem W.ldcG {text : String} {vs : List Value} {n : Nat} (hnw : G.nw = false) (hd : decode code pc = .ok (.ldc idx, 2)) (w : (Cond.stringLink y.cls idx text).before G.a0 G.Z = true) (wS : ∀ a ∈ Bundle.stringAtoms, a.before G.a0 G.Z = true)
    (hh : Jvm.Lit.constHeld G.Z y.cls idx) (hcw : Jvm.Lit.compactW.before G.a0 G.Z = true) (hlit : LitG As Li text vs) (ht : (∀ c ∈ text.toList, c.toNat < 256) ∧ text.toList.map (fun c => Value.int (Jvm.Lit.byteI c.toNat.toUInt16)) = vs)
    (hn : 4 * text.toList.length ≤ n) (hbig : n ≤ 536870912) (hc : cells + 2 ≤ R.cells) (hs : slots + (n + 4) ≤ R.slots)
    (nx : ∀ a b, W G K y code ret R Q ((a, false, obj "java/lang/String" litF [.ref b, .int 0]) :: (b, false, arr .byte vs) :: As) ((y.cls, idx, text, a) :: Li) (cells + 2) (slots + (n + 4)) (pc + 2) Ls (.ref a :: st)) : W G K y code ret R Q As Li cells slots pc Ls st := by
  intro T vmA kA locs ok XA hSA hkA hN hI hLA hF
  -- the tables as they stand here are the base
  have hZA : G.Z.Warmed39 vmA := ok_Z ok hSA
  have X : Stand K.p G.l K.e R (K.s.setVm T.vm) K.m K.args K.below K.meth K.c T locs cells slots := XA.retabled XA.warmed.wide
  have hS : K.s.Since T.vm T.heap.size := hSA.trans (XA.warmed.since _) hkA
  have hL : LI G.Z T.vm Li := hLA.warm XA.warmed
  have hZ : G.Z.Warmed39 T.vm := State.Warmed39.trans (t := K.s.setVm vmA) hZA XA.warmed.wide
  have hal := hZ.alike
  have E0 := hI.old
  have wi : (Cond.instantiable "java/lang/String" 4).before G.a0 G.Z = true := wS _ (by simp [Bundle.stringAtoms, Bundle.sN])
  have wa : (Cond.arrayClass .byte).before G.a0 G.Z = true := wS _ (by simp [Bundle.stringAtoms])
  have hownT : T.vm.findClass y.cls = some K.m.cls := by rw [XA.warmed.alike.findClass]; exact ok_own ok hSA
  have hownZ : G.Z.vm.findClass y.cls = some K.m.cls := by rw [← hal.findClass]; exact hownT
  obtain ⟨k, cf, i, units, hk, hcf, hcp, hu, hnm, htext, hres⟩ := Cond.stringLink_spec hownZ w
  obtain ⟨k', hk', hke, hx2, ee, hx3⟩ := hZ.2.2.2 _ k hk
  have hcf' : k'.cf = some cf := by rw [hke]; exact hcf
  have hH : ConstHeldL G.Z y.cls idx := heldStart hh w ht.1 hcw wa wi
  have oldgood : ∀ a, SlOf G.Z a units → ∃ b, Des G.Z G.a0 T.heap a false (obj "java/lang/String" litF [.ref b, .int 0]) ∧ Des G.Z G.a0 T.heap b false (arr .byte vs) ∧ ∀ e ∈ As, e.2.1 = true → a ≠ e.1 ∧ b ≠ e.1 := fun a hso => by
    obtain ⟨q, cS, hqa, hSl, hkS, hB, hbyt⟩ := hso
    subst hqa
    obtain ⟨D1, D2⟩ := sl_des (G := G) (U := G.Z) (vs := vs) ⟨rfl, rfl, fun c k h => ⟨k, h, by first | rfl | exact ⟨rfl, rfl⟩⟩⟩ hSl hkS hB hbyt htext ht
    have g1 := D1.lt
    have g2 := D2.lt
    refine ⟨q.sd, D1.cell (fun c h => E0.2 _ c h), D2.cell (fun c h => E0.2 _ c h), fun e he hw => ?_⟩
    have g3 := (hI.2.2 e he).1 hw
    exact ⟨Nat.ne_of_lt (Nat.lt_of_lt_of_le g1 g3), Nat.ne_of_lt (Nat.lt_of_lt_of_le g2 g3)⟩
  have good : ∀ a, T.vm.interned.find? (fun p => p.1 == units) = some (units, a) → k.resolved[idx]? = some none → ∃ b, Des G.Z G.a0 T.heap a false (obj "java/lang/String" litF [.ref b, .int 0]) ∧ Des G.Z G.a0 T.heap b false (arr .byte vs) ∧ ∀ e ∈ As, e.2.1 = true → a ≠ e.1 ∧ b ≠ e.1 := fun a hf hr => by
    rcases hL.where_ htext hf with ⟨r, hr1, hr2, hr3⟩ | hZf
    · obtain ⟨b, hb1, hb2⟩ := hlit r hr1 hr2
      rw [hr3] at hb1
      exact ⟨b, (hI.2.2 _ hb1).2, (hI.2.2 _ hb2).2, fun e he hw => ⟨hI.farF hb1 e he hw, hI.farF hb2 e he hw⟩⟩
    · exact oldgood a (hH _ k cf i units a hownZ hk hcf hcp hu (Or.inr ⟨hr, hZf⟩))
  -- the list of constants, one longer, the table of texts being as it was
  have third : ∀ a, ∀ q ∈ (y.cls, idx, text, a) :: Li, ∀ (us : Array UInt16) (x : Addr), utf16ToString? us = some q.2.2.1 → T.vm.interned.find? (fun p => p.1 == us) = some (us, x) → (∃ r ∈ (y.cls, idx, text, a) :: Li, r.2.2.1 = q.2.2.1 ∧ r.2.2.2 = x) ∨ G.Z.vm.interned.find? (fun p => p.1 == us) = some (us, x) := fun a q hq us x hus hf =>
    (hL.where_ hus hf).imp (fun ⟨r, h1, h2⟩ => ⟨r, List.mem_cons_of_mem _ h1, h2⟩) id
  have resd : ∀ a, k'.resolved[idx]? = some (some (.string a)) → ∃ b, Des G.Z G.a0 T.heap a false (obj "java/lang/String" litF [.ref b, .int 0]) ∧ Des G.Z G.a0 T.heap b false (arr .byte vs) ∧ ∀ e ∈ As, e.2.1 = true → a ≠ e.1 ∧ b ≠ e.1 := fun a h0 => by
    rcases ee idx with e0 | ⟨hop, r, e1, hr | ⟨a3, t, si, us, rfl, -, q3, q4, q5⟩⟩
    · exact oldgood a (hH _ k cf i units a hownZ hk hcf hcp hu (Or.inl (e0 ▸ h0)))
    · exfalso
      cases r <;> simp [State.rightAt, hk, hcf, hnm] at hr
    · rw [hcf] at q3 q4
      have e3 : si = i := by
        have := q3.symm.trans hcp
        simpa using this
      subst e3
      have e4 : us = units := by simpa [ConstantPool.utf8?, hu] using q4.symm
      subst e4
      have e5 : a3 = a := by
        have := e1.symm.trans h0
        simpa using this
      subst e5
      exact good a3 q5 hop
  have isopen : (∃ a, k'.resolved[idx]? = some (some (.string a))) ∨ (k'.resolved[idx]? = some none ∧ k.resolved[idx]? = some none) := by
    rcases ee idx with e0 | ⟨hop, r, e1, hr | ⟨a3, t, si, us, rfl, -⟩⟩
    · rcases hres with h0 | ⟨a, h0⟩
      · exact Or.inr ⟨e0.trans h0, h0⟩
      · exact Or.inl ⟨a, e0.trans h0⟩
    · exfalso
      cases r <;> simp [State.rightAt, hk, hcf, hnm] at hr
    · exact Or.inl ⟨a3, e1⟩
  rcases isopen with ⟨a, h0⟩ | ⟨hopen, hopen0⟩
  · -- it was loaded before
    obtain ⟨b, D1, D2, far⟩ := resd a h0
    have hlit' : RoadKit.Lit (K.s.setVm T.vm) y.cls idx a := by
      show State.resolvedAt? (K.s.setVm T.vm) y.cls idx = _
      simp [State.resolvedAt?, State.setVm, hownT, hk', h0]
    obtain ⟨U, u, g1, g2⟩ := nx a b T T.vm T.heap.size locs ok (X.more (Nat.le_add_right _ _) (Nat.le_add_right _ _)) hS (Nat.le_refl _) (fun q => by rw [hnw] at q; cases q) (hI.two D1 D2 far) ⟨hL.1.step (Or.inl rfl), fun r hr => by
      rcases List.mem_cons.mp hr with rfl | hr
      · exact hlit'
      · exact hL.2.1 r hr, third a⟩ hF
    exact ⟨U, u, ldcAgain X ok.1 hZ hownT w hlit' (g := mkF K.m pc Ls.toArray st) rfl (hb ok.2.1 hd) _ g1, g2⟩
  have q2 : k'.cf.bind (namesOf? ·.constantPool idx) = some (.string text) := by rw [hcf']; exact hnm
  have q3 : k'.cf.bind (·.constantPool[idx]?) = some (.string i) := by rw [hcf']; exact hcp
  have q4 : k'.cf.bind (·.constantPool.utf8? i) = some units := by rw [hcf']; simp [ConstantPool.utf8?, hu]
  cases hf : T.vm.interned.find? (fun p => p.1 == units) with
  | some pr =>
    obtain ⟨u', a⟩ := pr
    have hu' : u' = units := by
      have := Array.find?_some hf
      simpa using this
    subst hu'
    obtain ⟨b, D1, D2, far⟩ := good a hf hopen0
    have hW : (K.s.setVm T.vm).Warmed39 (T.vm.noted K.m.cls idx (.string a)) := (State.Warmed39.refl (K.s.setVm T.vm)).notedString hk' (Or.inl hopen) q2 q3 q4 hf
    have X2 := (X.more (cells := cells) (slots := slots) (Nat.le_add_right cells 2) (Nat.le_add_right slots (n + 4))).retabled hW
    have hB : (K.s.setVm T.vm).Booked (T.vm.noted K.m.cls idx (.string a)) T.heap.size := State.Booked.step (T := T) (T₂ := T.setVm (T.vm.noted K.m.cls idx (.string a))) (X.warmed.no_new_pair _) X.same.2.1 ⟨Nat.le_refl _, Or.inl rfl⟩
    have hS2 : K.s.Since (T.vm.noted K.m.cls idx (.string a)) T.heap.size := hS.trans ⟨hW, hB⟩ (Nat.le_refl _)
    have hk2 : (T.vm.noted K.m.cls idx (.string a)).classes[K.m.cls]? = some _ := Vm.classes_note_self idx (.string a) hk'
    have hr2 := Class.resolved_note_self (k := k') (.string a) hopen
    have hlit' : RoadKit.Lit (K.s.setVm (T.vm.noted K.m.cls idx (.string a))) y.cls idx a := by
      have hf2 : (T.vm.noted K.m.cls idx (.string a)).findClass y.cls = some K.m.cls := by rw [hW.alike.findClass]; exact hownT
      show State.resolvedAt? (K.s.setVm _) y.cls idx = _
      simp [State.resolvedAt?, State.setVm, hf2, hk2, hr2]
    obtain ⟨U, u, g1, g2⟩ := nx a b (T.setVm (T.vm.noted K.m.cls idx (.string a))) (T.vm.noted K.m.cls idx (.string a)) T.heap.size locs ok X2 hS2 (Nat.le_refl _) (fun q => by rw [hnw] at q; cases q) (hI.two D1 D2 far) ⟨hL.1.step (Or.inl rfl), fun r hr => by
      rcases List.mem_cons.mp hr with rfl | hr
      · exact hlit'
      · exact Lit.stays (s := K.s) (hL.2.1 r hr) hW, third a⟩ hF
    refine ⟨U, u, ?_, g2⟩
    have hdg : decode K.c.code (mkF K.m pc Ls.toArray st).pc = .ok (.ldc idx, 2) := hb ok.2.1 hd
    have hexec := ok.1
    jvm_step X.here [hexec, hdg, ldc.wp_string_found (e := K.e) (s := T) (f := mkF K.m pc Ls.toArray st) X.here.top hk' hcf' hcp hu hopen hf]
    exact g1
  | none =>
    have Y := rebase X E0 (by omega) (by omega)
    have hHL : ConstHeldL ((rebS0 G K.s T.vm).setVm T.vm) y.cls idx := fun c2 k2 cf2 i2 us2 a2 r1 r2 r3 r4 r5 r6 => by
      exfalso
      cases (show T.vm.findClass y.cls = some c2 from r1).symm.trans hownT
      cases (show T.vm.classes[K.m.cls]? = some k2 from r2).symm.trans hk'
      cases r3.symm.trans hcf'
      cases r4.symm.trans hcp
      cases r5.symm.trans hu
      rcases r6 with r6 | ⟨-, r6⟩
      · rw [hopen] at r6; cases r6
      · rw [show ((rebS0 G K.s T.vm).setVm T.vm).vm.interned.find? (fun p => p.1 == units) = none from hf] at r6; cases r6
    obtain ⟨a, T', Y', hS', ⟨kk, hkk, hrr⟩, hb', h1', hint, ⟨units', htext', hin⟩, st'⟩ := Y.ldcColdF (fun b cl h => E0.2 b cl h) ok.1 (own := y.cls) (text := text) (index := idx) hownT
      (mvS (s := rebS0 G K.s T.vm) hZ w) (fun d hd => by
        have q := wS d hd
        simp only [Bundle.stringAtoms, List.mem_cons, List.not_mem_nil, or_false] at hd
        rcases hd with rfl | rfl | rfl | rfl | rfl | rfl | rfl
        · exact mv (s := rebS0 G K.s T.vm) hZ q
        · exact mv (s := rebS0 G K.s T.vm) hZ q
        · exact mvA (s := rebS0 G K.s T.vm) hZ q
        · exact mv (s := rebS0 G K.s T.vm) hZ q
        · exact mv (s := rebS0 G K.s T.vm) hZ q
        · exact mv (s := rebS0 G K.s T.vm) hZ q
        · exact mv (s := rebS0 G K.s T.vm) hZ q) hHL (fun units hu => Jvm.ClassFile.lat_of_text hu ht.1) (g := mkF K.m pc Ls.toArray st) rfl (hb ok.2.1 hd) hn hbig (by show _ + 2 ≤ _ + _; omega) (by show _ + _ ≤ _ + _; omega)
    have euu : units' = units := Array.toList_inj.mp (by rw [Jvm.ClassFile.units_of_text htext' ht.1, Jvm.ClassFile.units_of_text htext ht.1])
    subst euu
    have hal' : G.Z.vm.Alike T'.vm := (State.Warmed39.trans (t := rebS0 G K.s T.vm) hZ hS'.1).alike
    have E : Ext T.heap T'.heap := ext_of hb'
    have hW0 : (K.s.setVm T.vm).Warmed39 T'.vm := hS'.1
    have X1 := X.retabled hW0
    have hsz : T'.heap.size ≤ T.heap.size + 2 := by
      have q := Y'.heapSize
      have q' : T'.heap.size ≤ G.Z.heap.size + ((T.heap.size - G.Z.heap.size) + 2) := q
      have := E0.1
      omega
    have sm0 := own_sums E0
    have sm1 := own_sums E
    have sm2 := own_sums (h := G.Z.heap) (h' := T'.heap) ⟨Nat.le_trans E0.1 E.1, fun x c q => E.2 x c (E0.2 x c q)⟩
    have bk : T.slotsUsed = (T.heap.toList.map fun c => c.slots.size).sum := by
      have h := X.book
      simp only [State.slotsTrue, beq_iff_eq] at h
      rw [h]; exact own_foldA _
    have bk' : T'.slotsUsed = (T'.heap.toList.map fun c => c.slots.size).sum := by
      have h := Y'.book
      simp only [State.slotsTrue, beq_iff_eq] at h
      rw [h]; exact own_foldA _
    have hsame : (T.setVm T'.vm).sameButNew (T'.setVm T'.vm) [] 2 (n + 4) := by
      have q1 := Y'.same
      have q0 := X.same
      refine ⟨?_, E.1, hsz, ?_, ?_, fun a c h => ⟨c, E.2 a c h, rfl, rfl, fun _ _ => rfl⟩⟩
      · have e1 : T' = ({ (K.s.setVm T.vm).setFrames T'.frames with heap := T'.heap, slotsUsed := T'.slotsUsed } : State).setVm T'.vm := by
          have h := congrArg (fun s : State => s.setVm T'.vm) q1.1
          exact h
        have e0 : T = ({ (K.s.setVm T.vm).setFrames T.frames with heap := T.heap, slotsUsed := T.slotsUsed } : State).setVm T.vm := by
          have h := congrArg (fun s : State => s.setVm T.vm) q0.1
          exact h
        have e2 : (T.setVm T'.vm).setFrames T'.frames = ({ (K.s.setVm T.vm).setFrames T'.frames with heap := T.heap, slotsUsed := T.slotsUsed } : State).setVm T'.vm := by
          have e3 : (T.setVm T'.vm).setFrames T'.frames = ((({ (K.s.setVm T.vm).setFrames T.frames with heap := T.heap, slotsUsed := T.slotsUsed } : State).setVm T.vm).setVm T'.vm).setFrames T'.frames := by rw [← e0]
          rw [e3]
          show ({ ((K.s.setVm T.vm).setFrames T.frames).setFrames T'.frames with heap := T.heap, slotsUsed := T.slotsUsed, vm := T'.vm } : State) = _
          rw [State.setFrames_setFrames]
          rfl
        show T' = { (T.setVm T'.vm).setFrames T'.frames with heap := T'.heap, slotsUsed := T'.slotsUsed }
        rw [e2]
        exact e1
      · show T'.slotsUsed = T.slotsUsed + _
        rw [bk, bk']; exact sm1
      · have q : ((T'.heap.toList.drop G.Z.heap.size).map fun c => c.slots.size).sum ≤ ((T.heap.toList.drop G.Z.heap.size).map fun c => c.slots.size).sum + (n + 4) := q1.2.2.2.2.1
        show ((T'.heap.toList.drop T.heap.size).map fun c => c.slots.size).sum ≤ n + 4
        omega
    have X2 := X1.moved (T₂ := T') Y'.here Y'.tail (Y'.limits.trans X.limits.symm) (Y'.bytes.trans X.bytes.symm) (State.WarmedH.refl _) hsame
    rw [List.append_nil] at X2
    have hB : (K.s.setVm T.vm).Booked T'.vm T'.heap.size := State.Booked.step (X.warmed.no_new_pair _) X.same.2.1 h1'
    have hSn : K.s.Since T'.vm T'.heap.size := hS.trans ⟨hW0, hB⟩ E.1
    obtain ⟨q, cS, hqa, hSl, hkS, hB', hbyt, hpl⟩ := hin
    subst hqa
    obtain ⟨D1, D2⟩ := sl_des (G := G) (vs := vs) hal' hSl hkS hB' hbyt htext ht
    have hI' := hI.ext E
    have far : ∀ e ∈ As, e.2.1 = true → q.sa ≠ e.1 ∧ q.sd ≠ e.1 := fun e he hw => by
      have g1 := (hI.2.2 e he).1 hw
      have g2 := (hI.2.2 e he).2.lt
      rcases hpl with ⟨p1, p2⟩ | ⟨p1, p2⟩
      · exact ⟨Nat.ne_of_lt (Nat.lt_of_lt_of_le p1 g1), Nat.ne_of_lt (Nat.lt_of_lt_of_le p2 g1)⟩
      · exact ⟨(Nat.ne_of_lt (Nat.lt_of_lt_of_le g2 p1)).symm, (Nat.ne_of_lt (Nat.lt_of_lt_of_le g2 p2)).symm⟩
    -- the text is booked at that very place
    have hnew : T'.vm.interned.find? (fun p => p.1 == units') = some (units', q.sa) := by
      obtain ⟨k2, hk2, -, -, ee2, -⟩ := hW0.2.2.2 _ k' hk'
      cases hkk.symm.trans hk2
      rcases ee2 idx with e0 | ⟨hop, r, e1, hr | ⟨a3, t, si, us, rfl, -, z3, z4, z5⟩⟩
      · rw [hrr, hopen] at e0; cases e0
      · exfalso
        cases r <;> simp [State.rightAt, State.setVm, hk', hcf', hnm] at hr
      · rw [hcf'] at z3 z4
        have e3 : si = i := by
          have := z3.symm.trans hcp
          simpa using this
        subst e3
        have e4 : us = units' := by simpa [ConstantPool.utf8?, hu] using z4.symm
        subst e4
        have e5 : a3 = q.sa := by
          have := e1.symm.trans hrr
          simpa using this
        subst e5
        exact z5
    have hLi : LI G.Z T'.vm ((y.cls, idx, text, q.sa) :: Li) := by
      refine ⟨hL.1.step hint, fun r hr => ?_, fun r hr us x hus hfx => ?_⟩
      · rcases List.mem_cons.mp hr with rfl | hr
        · have hf : T'.vm.findClass y.cls = some K.m.cls := by rw [hW0.alike.findClass]; exact hownT
          show State.resolvedAt? (G.Z.setVm T'.vm) y.cls idx = _
          simp [State.resolvedAt?, State.setVm, hf, hkk, hrr]
        · exact Lit.stays (s := K.s) (hL.2.1 r hr) hW0
      · rcases hint with e | ⟨u0, a0, hu0, e⟩
        · rw [e] at hfx; exact third q.sa r hr us x hus hfx
        · cases hft : T.vm.interned.find? (fun p => p.1 == us) with
          | some pr =>
            have : pr = (us, x) := by
              rw [e, Array.find?_push, hft] at hfx; simpa using hfx
            subst this
            exact third q.sa r hr us x hus hft
          | none =>
            have e6 : u0 = us ∧ a0 = x := by
              rw [e, Array.find?_push, hft] at hfx
              by_cases hq : u0 == us
              · simp [hq] at hfx; exact ⟨by simpa using hq, hfx.2⟩
              · simp [hq] at hfx
            obtain ⟨rfl, rfl⟩ := e6
            have e7 : text = r.2.2.1 := Option.some.inj (hu0.symm.trans hus)
            have e8 : u0 = units' := Array.toList_inj.mp (by rw [Jvm.ClassFile.units_of_text hu0 ht.1, Jvm.ClassFile.units_of_text htext ht.1])
            subst e8
            have e9 : q.sa = a0 := by
              have := hnew.symm.trans hfx
              simpa using this
            exact Or.inl ⟨_, List.mem_cons_self .., e7, e9⟩
    obtain ⟨U, u, g1, g2⟩ := nx q.sa q.sd T' T'.vm T'.heap.size locs ok X2 hSn (Nat.le_refl _) (fun q => by rw [hnw] at q; cases q) (hI'.two D1 D2 far) hLi hF
    exact ⟨U, u, st' _ g1, g2⟩
theorem W.ldcT {text : String} {vs : List Value} {n : Nat} (hnw : G.nw = false) (hd : decode code pc = .ok (.ldc idx, 2)) (w : (Cond.stringLink y.cls idx text).before G.a0 G.Z = true) (wS : ∀ a ∈ Bundle.stringAtoms, a.before G.a0 G.Z = true)
    (hh : Jvm.Lit.constHeld G.Z y.cls idx) (hcw : Jvm.Lit.compactW.before G.a0 G.Z = true) (hnot : text ∉ Li.map fun q => q.2.2.1) (ht : (∀ c ∈ text.toList, c.toNat < 256) ∧ text.toList.map (fun c => Value.int (Jvm.Lit.byteI c.toNat.toUInt16)) = vs)
    (hn : 4 * text.toList.length ≤ n) (hbig : n ≤ 536870912) (hc : cells + 2 ≤ R.cells) (hs : slots + (n + 4) ≤ R.slots)
    (nx : ∀ a b, W G K y code ret R Q ((a, false, obj "java/lang/String" litF [.ref b, .int 0]) :: (b, false, arr .byte vs) :: As) ((y.cls, idx, text, a) :: Li) (cells + 2) (slots + (n + 4)) (pc + 2) Ls (.ref a :: st)) : W G K y code ret R Q As Li cells slots pc Ls st :=
  W.ldcG hnw hd w wS hh hcw (fun q hq e => absurd (List.mem_map.mpr ⟨q, hq, e⟩) hnot) ht hn hbig hc hs nx
end Laws
end Jvm.Own
namespace Jvm.Own
open Sem ClassFile Op Lib Bundle Jvm.Stand Jvm.Free Jvm.LawKit Jvm.RoadKit
/-! ### what is known of a list that is not written out -/
abbrev STR : String := "java/lang/String"
section Strs
variable {G : Gx} {As As' : List Ent} {a b x : Addr} {w : Bool} {C D O n d : String} {v : Value} {fs fs' : List Fd} {vs vs' : List Value} {t t' : FieldType} {sc sc' : SC} {e : Ent} {cod : Int32} {h : Heap}
def Sub (As As' : List Ent) : Prop := ∀ e ∈ As, e ∈ As'
theorem Sub.refl (As : List Ent) : Sub As As := fun _ h => h
theorem Sub.cons (q : Sub As As') : Sub As (e :: As') := fun x hx => List.mem_cons_of_mem _ (q x hx)
theorem Sub.trans {As'' : List Ent} (q : Sub As As') (r : Sub As' As'') : Sub As As'' := fun x hx => r x (q x hx)
theorem Sub.trans' {As'' : List Ent} (r : Sub As' As'') (q : Sub As As') : Sub As As'' := fun x hx => r x (q x hx)
theorem Upd.mid {pre post : List Ent} : Upd (pre ++ (a, true, sc) :: post) a sc sc' (pre ++ (a, true, sc') :: post) := ⟨pre, post, rfl, rfl⟩
theorem Upd.new (u : Upd As a sc sc' As') : (a, true, sc') ∈ As' := by obtain ⟨pre, post, rfl, rfl⟩ := u; simp
theorem Upd.other (u : Upd As a sc sc' As') (he : e ∈ As) (hne : e ≠ (a, true, sc)) : e ∈ As' := by
  obtain ⟨pre, post, rfl, rfl⟩ := u
  rcases List.mem_append.mp he with he | he
  · exact List.mem_append_left _ he
  · rcases List.mem_cons.mp he with rfl | he
    · exact absurd rfl hne
    · exact List.mem_append_right _ (List.mem_cons_of_mem _ he)
theorem Upd.of_mem (hm : (a, true, sc) ∈ As) (sc' : SC) : ∃ As', Upd As a sc sc' As' := by
  obtain ⟨pre, post, rfl⟩ := List.append_of_mem hm; exact ⟨_, pre, post, rfl, rfl⟩
def FIn (G : Gx) (As : List Ent) (a : Addr) (C O n d : String) (v : Value) : Prop := (∃ w fs vs, (a, w, obj C fs vs) ∈ As ∧ FAt fs vs O n d v) ∨ Fld G.Z G.Z.heap a O n d v
theorem FIn.mem (hm : (a, w, obj C fs vs) ∈ As) (q : FAt fs vs O n d v) : FIn G As a C O n d v := Or.inl ⟨w, fs, vs, hm, q⟩
theorem FIn.old (F : Fld G.Z G.Z.heap a O n d v) : FIn G As a C O n d v := Or.inr F
theorem FIn.fld (q : FIn G As a C O n d v) (I : Inv G As h) : Fld G.Z h a O n d v := by
  rcases q with ⟨w, fs, vs, hm, q⟩ | F
  · exact I.fld hm q
  · exact F.ext I.old
theorem FIn.sub (q : FIn G As a C O n d v) (s : Sub As As') : FIn G As' a C O n d v := q.imp (fun ⟨w, fs, vs, hm, r⟩ => ⟨w, fs, vs, s _ hm, r⟩) id
theorem Is.sub (q : Is G As a C) (s : Sub As As') : Is G As' a C := q.imp (fun ⟨w, fs, vs, hm⟩ => ⟨w, fs, vs, s _ hm⟩) id
theorem AVin.sub (q : AVin G As a t vs) (s : Sub As As') : AVin G As' a t vs := q.imp (fun ⟨w, hm⟩ => ⟨w, s _ hm⟩) id
theorem Is.upd (q : Is G As x C) (u : Upd As a (obj D fs vs) (obj D fs' vs') As') : Is G As' x C := by
  rcases q with ⟨w, f, v, hm⟩ | E
  · by_cases hne : ((x, w, obj C f v) : Ent) = (a, true, obj D fs vs)
    · have h1 := congrArg Prod.fst hne
      have h2 := congrArg (fun e : Ent => e.2.2) hne
      simp only [obj, Sum.inl.injEq, Prod.mk.injEq] at h1 h2
      obtain ⟨rfl, -, -⟩ := h2
      subst h1
      exact Or.inl ⟨_, _, _, u.new⟩
    · exact Or.inl ⟨w, f, v, u.other hm hne⟩
  · exact Or.inr E
theorem Is.updA (q : Is G As x C) (u : Upd As a (arr t vs) sc' As') : Is G As' x C := by
  rcases q with ⟨w, f, v, hm⟩ | E
  · exact Or.inl ⟨w, f, v, u.other hm (fun q => by simp at q)⟩
  · exact Or.inr E
theorem FIn.upd (q : FIn G As x C O n d v) (u : Upd As a (obj D fs vs) sc' As') (hD : C ≠ D) : FIn G As' x C O n d v := by
  rcases q with ⟨w, f, v, hm, r⟩ | F
  · exact Or.inl ⟨w, f, v, u.other hm (fun q => hD (by simp at q; exact q.2.2.1)), r⟩
  · exact Or.inr F
theorem FIn.updA (q : FIn G As x C O n d v) (u : Upd As a (arr t vs) sc' As') : FIn G As' x C O n d v := by
  rcases q with ⟨w, f, v, hm, r⟩ | F
  · exact Or.inl ⟨w, f, v, u.other hm (fun q => by simp at q), r⟩
  · exact Or.inr F
theorem AVin.upd (q : AVin G As x t vs) (u : Upd As a (obj D fs vs') sc' As') : AVin G As' x t vs := by
  rcases q with ⟨w, hm⟩ | A
  · exact Or.inl ⟨w, u.other hm (fun q => by simp at q)⟩
  · exact Or.inr A
theorem AVin.updT (q : AVin G As x t vs) (u : Upd As a (arr t' vs') sc' As') (ht : t ≠ t') : AVin G As' x t vs := by
  rcases q with ⟨w, hm⟩ | A
  · exact Or.inl ⟨w, u.other hm (fun q => ht (by simp at q; exact q.2.2.1))⟩
  · exact Or.inr A
/-- a String: its bytes, its coder -/
def StrIn (G : Gx) (As : List Ent) (a : Addr) (bs : List Value) (cod : Int32) : Prop :=
  ∃ b, Is G As a STR ∧ FIn G As a STR STR "value" "[B" (.ref b) ∧ FIn G As a STR STR "coder" "B" (.int cod) ∧ AVin G As b .byte bs
theorem StrIn.sub (q : StrIn G As a vs cod) (s : Sub As As') : StrIn G As' a vs cod := by
  obtain ⟨b, h1, h2, h3, h4⟩ := q; exact ⟨b, h1.sub s, h2.sub s, h3.sub s, h4.sub s⟩
theorem StrIn.upd {us : List Value} (q : StrIn G As x vs cod) (u : Upd As a (obj D fs vs') (obj D fs' us) As') (hD : STR ≠ D) : StrIn G As' x vs cod := by
  obtain ⟨b, h1, h2, h3, h4⟩ := q; exact ⟨b, h1.upd u, h2.upd u hD, h3.upd u hD, h4.upd u⟩
theorem StrIn.is (q : StrIn G As a vs cod) : Is G As a STR := by obtain ⟨b, h1, -⟩ := q; exact h1
/-- a String constant: not loaded yet, or here -/
def LitOk (As : List Ent) (Li : List LitE) (own : String) (idx : Nat) (text : String) (vs : List Value) : Prop :=
  (text ∉ Li.map fun q => q.2.2.1) ∨ ∃ a b, (own, idx, text, a) ∈ Li ∧ (a, false, obj STR litF [.ref b, .int 0]) ∈ As ∧ (b, false, arr .byte vs) ∈ As
theorem LitOk.sub {Li : List LitE} {own text : String} {idx : Nat} (q : LitOk As Li own idx text vs) (s : Sub As As') : LitOk As' Li own idx text vs :=
  q.imp id fun ⟨a, b, h1, h2, h3⟩ => ⟨a, b, h1, s _ h2, s _ h3⟩
theorem LitOk.upd {Li : List LitE} {own text : String} {idx : Nat} (q : LitOk As Li own idx text vs) (u : Upd As a sc sc' As') : LitOk As' Li own idx text vs :=
  q.imp id fun ⟨a, b, h1, h2, h3⟩ => ⟨a, b, h1, u.other h2 (fun q => by simp at q), u.other h3 (fun q => by simp at q)⟩
theorem LitOk.str {a b : Addr} (h2 : (a, false, obj STR litF [.ref b, .int 0]) ∈ As) (h3 : (b, false, arr .byte vs) ∈ As) : StrIn G As a vs 0 :=
  ⟨b, Is.mem h2, FIn.mem h2 FAt.head, FIn.mem h2 (FAt.tail FAt.head), AVin.mem h3⟩
end Strs
section Laws
variable {G : Gx} {K : Kx} {y : MethodName} {code : ByteArray} {ret : Option FieldType} {R : Room} {Q : Qx} {As As' : List Ent} {Li Li' : List LitE} {cells slots pc pc' : Nat} {Ls Ls' : List Slot} {st st' : List Value} {idx : Nat} {a : Addr} {C O n d R0 host : String} {v : Value}
theorem W.getI (wl : (Cond.fieldLink y.cls idx R0 n d).before G.a0 G.Z = true ∨ (Cond.fieldLinkNest y.cls idx R0 n d host).before G.a0 G.Z = true) (via : Via G.Z R0 O n d) (hd : decode code pc = .ok (.getfield idx, 3))
    (hf : FIn G As a C O n d v) (nx : W G K y code ret R Q As Li cells slots (pc + 3) Ls (v :: st)) : W G K y code ret R Q As Li cells slots pc Ls (.ref a :: st) := by
  intro T vm0 k0 locs ok X hS hk hN hI hL hF
  obtain ⟨T', X', e', st'⟩ := Jvm.RoadKit.getF X ok.1 (ok_Z ok hS) (ok_own ok hS) wl via rfl (hf.fld hI) (g := mkF K.m pc Ls.toArray (.ref a :: st)) rfl rfl (hb ok.2.1 hd)
  obtain ⟨U, u, h1, h2⟩ := nx T' vm0 k0 locs ok X' hS (by rw [e']; exact hk) hN (by rw [e']; exact hI) hL hF
  exact ⟨U, u, st' _ h1, h2⟩
/-- 'ldc' of a String constant, loaded already or not -/
theorem W.ldcL {text : String} {vs : List Value} {n : Nat} (hl : LitOk As Li y.cls idx text vs) (hnw : G.nw = false) (hd : decode code pc = .ok (.ldc idx, 2)) (w : (Cond.stringLink y.cls idx text).before G.a0 G.Z = true) (wS : ∀ a ∈ Bundle.stringAtoms, a.before G.a0 G.Z = true)
    (hh : Jvm.Lit.constHeld G.Z y.cls idx) (hcw : Jvm.Lit.compactW.before G.a0 G.Z = true) (ht : (∀ c ∈ text.toList, c.toNat < 256) ∧ text.toList.map (fun c => Value.int (Jvm.Lit.byteI c.toNat.toUInt16)) = vs)
    (hn : 4 * text.toList.length ≤ n) (hbig : n ≤ 536870912) (hc : cells + 2 ≤ R.cells) (hs : slots + (n + 4) ≤ R.slots)
    (nx : ∀ a b As' Li', (a, false, obj STR litF [.ref b, .int 0]) ∈ As' → (b, false, arr .byte vs) ∈ As' → (y.cls, idx, text, a) ∈ Li' → ((As' = As ∧ Li' = Li) ∨ (As' = (a, false, obj STR litF [.ref b, .int 0]) :: (b, false, arr .byte vs) :: As ∧ Li' = (y.cls, idx, text, a) :: Li)) →
      W G K y code ret R Q As' Li' (cells + 2) (slots + (n + 4)) (pc + 2) Ls (.ref a :: st)) : W G K y code ret R Q As Li cells slots pc Ls st := by
  rcases hl with hl | ⟨a, b, h1, h2, h3⟩
  · exact W.ldcT hnw hd w wS hh hcw hl ht hn hbig hc hs fun a b => nx a b _ _ (List.Mem.head _) (List.Mem.tail _ (List.Mem.head _)) (List.Mem.head _) (Or.inr ⟨rfl, rfl⟩)
  · exact W.ldcA hd w h1 (W.mono (nx a b As Li h2 h3 h1 (Or.inl ⟨rfl, rfl⟩)) (Nat.le_add_right _ _) (Nat.le_add_right _ _))
end Laws
/-! ### small numbers as ints -/
theorem n_toInt {a : Nat} (h : a < 2147483648) : a.toInt32.toInt = a := len_toInt (by simpa using h)
theorem n_lt {a b : Nat} (h : a < b) (hb : b < 2147483648) : a.toInt32 < b.toInt32 := by
  rw [Int32.lt_iff_toInt_lt, n_toInt hb, n_toInt (by omega)]; omega
theorem n_nlt {a b : Nat} (h : b ≤ a) (ha : a < 2147483648) : ¬ a.toInt32 < b.toInt32 := by
  rw [Int32.lt_iff_toInt_lt, n_toInt ha, n_toInt (by omega)]; omega
theorem n_nn {a : Nat} (h : a < 2147483648) : ¬ a.toInt32 < 0 := by
  rw [Int32.lt_iff_toInt_lt, n_toInt h]; show ¬ ((a : Int) < 0); omega
theorem n_clamp {a : Nat} (h : a < 2147483648) : a.toInt32.toNatClampNeg = a := by
  simp only [Int32.toNatClampNeg, n_toInt h]; omega
theorem n_succ (a : Nat) : a.toInt32 + 1 = (a + 1).toInt32 := by
  show Int32.ofNat a + 1 = Int32.ofNat (a + 1)
  rw [Int32.ofNat_add]; rfl
theorem store_one {Ls : List Slot} {k : Nat} {o : Slot} {v : Value} (hold : Ls[k]? = some o) (ho : One o) (hv : v.category = 1) : storeLocals Ls.toArray k v = some (Ls.set k (.val v)).toArray := by
  rw [Jvm.Free.XS.store1 (o := o) (by simpa using hold) ho hv]; simp
theorem byt_fits (z : Int32) : fits .byte (.int z.toInt8.toInt32) = true := fits_nar_byte z
end Jvm.Own
namespace Jvm.Own
open Sem ClassFile Op Lib Bundle Jvm.Stand Jvm.Free Jvm.LawKit Jvm.RoadKit
abbrev byt (z : Int32) : Value := .int z.toInt8.toInt32
theorem n_ne0 {a : Nat} (h0 : 0 < a) (h : a < 2147483648) : ¬ a.toInt32 = 0 := fun e => by
  have := congrArg Int32.toInt e
  rw [n_toInt h] at this
  have h0' : (0 : Int32).toInt = 0 := rfl
  omega
theorem own_fill (cs : List Int32) {k m : Nat} (hk : k < cs.length) (hm : k + (m + 1) = cs.length) :
    ((cs.take k).map byt ++ List.replicate (m + 1) (Value.int 0)).set k (byt cs[k]) = (cs.take (k + 1)).map byt ++ List.replicate m (Value.int 0) := by
  have hl : ((cs.take k).map byt).length = k := by simp; omega
  rw [List.set_append_right _ _ (by omega), hl, Nat.sub_self, List.replicate_succ, List.set_cons_zero, List.take_succ_eq_append_getElem hk, List.map_append, List.append_assoc]
  rfl
theorem own_done (cs : List Int32) : (cs.take cs.length).map byt ++ List.replicate 0 (Value.int 0) = cs.map byt := by simp
/-- the String constants loaded since: only such texts -/
def LX (Ts : List String) (Li L : List LitE) : Prop := ∃ M, L = M ++ Li ∧ ∀ q ∈ M, q.2.2.1 ∈ Ts
theorem LX.refl (Ts : List String) (Li : List LitE) : LX Ts Li Li := ⟨[], rfl, fun _ h => nomatch h⟩
theorem LX.one {Ts : List String} {Li : List LitE} {q : LitE} (h : q.2.2.1 ∈ Ts) : LX Ts Li (q :: Li) := ⟨[q], rfl, fun r hr => by cases List.mem_singleton.mp hr; exact h⟩
theorem LX.trans {Ts : List String} {Li L L' : List LitE} (a : LX Ts Li L) (b : LX Ts L L') : LX Ts Li L' := by
  obtain ⟨M, rfl, h⟩ := a; obtain ⟨N, rfl, g⟩ := b
  exact ⟨N ++ M, by simp, fun q hq => (List.mem_append.mp hq).elim (g q) (h q)⟩
theorem LX.mono {Ts Ts' : List String} {Li L : List LitE} (a : LX Ts Li L) (h : ∀ t ∈ Ts, t ∈ Ts') : LX Ts' Li L := by
  obtain ⟨M, rfl, g⟩ := a; exact ⟨M, rfl, fun q hq => h _ (g q hq)⟩
theorem LX.mem {Ts : List String} {Li L : List LitE} (a : LX Ts Li L) {q : LitE} (h : q ∈ Li) : q ∈ L := by obtain ⟨M, rfl, -⟩ := a; exact List.mem_append_right _ h
theorem LX.lit {Ts : List String} {Li L : List LitE} {As As' : List Ent} {own text : String} {idx : Nat} {vs : List Value} (a : LX Ts Li L) (s : Sub As As') (q : LitOk As Li own idx text vs) (ht : text ∉ Ts) : LitOk As' L own idx text vs := by
  rcases q with q | ⟨x, b, h1, h2, h3⟩
  · refine Or.inl fun h => ?_
    obtain ⟨M, rfl, g⟩ := a
    rw [List.map_append] at h
    rcases List.mem_append.mp h with h | h
    · obtain ⟨r, hr, e⟩ := List.mem_map.mp h
      exact ht (e ▸ g r hr)
    · exact q h
  · exact Or.inr ⟨x, b, a.mem h1, s _ h2, s _ h3⟩
/-- COMPACT_STRINGS is on -/
def CSt (G : Gx) : Prop := ∃ z : Int32, Sta G.Z G.Z.heap STR "COMPACT_STRINGS" "Z" (.int z) ∧ ¬ z = 0
/-- a String is made of chars: what the maker leaves -/
def NewS (G : Gx) (As : List Ent) (Li : List LitE) (o : Addr) (bs : List Value) (A : List Ent) (L : List LitE) : Prop :=
  StrIn G A o bs 0 ∧ Sub As A ∧ LitOk A L STR 7 "" [] ∧ LX [""] Li L
end Jvm.Own
namespace Jvm.Own
open Sem ClassFile Op Lib Bundle Jvm.Stand Jvm.Free Jvm.LawKit Jvm.RoadKit
theorem ref_nar {u : Value} {C : String} (h : u.isRef = true) : narrow (.object C) u = u := by rcases ref_cases h with rfl | ⟨_, rfl⟩ <;> rfl
theorem ref_fit {u : Value} {C : String} (h : u.isRef = true) : fits (.object C) u = true := by rcases ref_cases h with rfl | ⟨_, rfl⟩ <;> rfl
theorem ref_cat {u : Value} (h : u.isRef = true) : u.category = 1 := by rcases ref_cases h with rfl | ⟨_, rfl⟩ <;> rfl
theorem Is.cons {G : Gx} {As : List Ent} {a : Addr} {C : String} {e : Ent} (q : Is G As a C) : Is G (e :: As) a C := q.sub (Sub.cons (Sub.refl _))
end Jvm.Own
namespace Jvm.Own
open Sem ClassFile Op Lib Bundle Jvm.Stand Jvm.Free Jvm.LawKit Jvm.RoadKit
/-- 1 where the two lists are one, else 0 -/
def eqI (xs zs : List Int32) : Int32 := if xs = zs then 1 else 0
theorem eqI_len {xs zs : List Int32} (h : xs.length ≠ zs.length) : eqI xs zs = 0 := if_neg fun e => h (congrArg List.length e)
theorem eqI_at {xs zs : List Int32} {k : Nat} (h1 : k < xs.length) (h2 : k < zs.length) (h : xs[k] ≠ zs[k]) : eqI xs zs = 0 := if_neg fun e => h (by subst e; rfl)
theorem eqI_all {xs zs : List Int32} (hl : xs.length = zs.length) (h : ∀ k (h1 : k < xs.length) (h2 : k < zs.length), xs[k] = zs[k]) : eqI xs zs = 1 := if_pos (List.ext_getElem hl h)
theorem eqI_self (xs : List Int32) : eqI xs xs = 1 := if_pos rfl
theorem n_inj {a b : Nat} (ha : a < 2147483648) (hb : b < 2147483648) (h : a.toInt32 = b.toInt32) : a = b := by
  have := congrArg Int32.toInt h
  rw [n_toInt ha, n_toInt hb] at this
  omega
theorem eqI_nar (xs zs : List Int32) : narrow .boolean (.int (eqI xs zs)) = .int (eqI xs zs) := by unfold eqI; split <;> rfl
end Jvm.Own
namespace Jvm.Own
open Sem ClassFile Op Lib Bundle Jvm.Stand Jvm.Free Jvm.LawKit Jvm.RoadKit
theorem Fld.uniq {Z : State} {h : Heap} {a : Addr} {C n d : String} {v u : Value} (F : Fld Z h a C n d v) (H : Fld Z h a C n d u) : v = u := by
  by_cases q : v = u
  · exact q
  · exact absurd rfl (RoadKit.Fld.ne F H q)
theorem AV.uniq {Z : State} {h : Heap} {a : Addr} {w w' : Bool} {t t' : FieldType} {vs us : List Value} (A : AV Z h a w t vs) (B : AV Z h a w' t' us) : vs = us := by
  obtain ⟨c, A1, e1, -⟩ := A
  obtain ⟨c', B1, e2, -⟩ := B
  cases A1.1.symm.trans B1.1
  exact e1.symm.trans e2
theorem StrIn.uniq {G : Gx} {As : List Ent} {a : Addr} {vs us : List Value} {c c' : Int32} {h : Heap} (I : Inv G As h) (q : StrIn G As a vs c) (r : StrIn G As a us c') : vs = us := by
  obtain ⟨b, -, q2, -, q4⟩ := q
  obtain ⟨b', -, r2, -, r4⟩ := r
  obtain rfl := Value.ref.inj (Fld.uniq (q2.fld I) (r2.fld I))
  exact AV.uniq (q4.get I) (r4.get I)
theorem map_int_inj {xs zs : List Int32} (h : xs.map Value.int = zs.map Value.int) : xs = zs := by
  have := congrArg (List.map fun v => match v with | Value.int z => z | _ => 0) h
  simpa [List.map_map, Function.comp_def] using this
end Jvm.Own
namespace Jvm.Own
open Sem ClassFile Op Lib Bundle Jvm.Stand Jvm.Free Jvm.LawKit Jvm.RoadKit
/-- a class right below Object is no K -/
theorem not_sub {Z : State} {a0 : Array Value} {C O K : String} {n : Nat} (wC : (Cond.superclass C O).before a0 Z = true) (wO : (Cond.noSuperclass O).before a0 Z = true) (wK : (Cond.instantiable K n).before a0 Z = true) (hn : C ≠ K) (hO : O ≠ K) :
    ∃ c t, Z.vm.findClass C = some c ∧ Z.vm.findClass K = some t ∧ Z.vm.assignable c t = false := by
  obtain ⟨c, h0⟩ := found_sup wC
  obtain ⟨p, k, kp, h1, h2, h3, h4, h5, -, h7⟩ := Cond.superclass_spec h0 wC
  obtain ⟨o, ko, g1, g2, g3, -⟩ := Cond.noSuperclass_spec wO
  cases h1.symm.trans g1
  cases h3.symm.trans g2
  obtain ⟨t, kt, t1, t2, t3, t4, -⟩ := Cond.instantiable_spec wK
  have ne := ids_ne h0 t1 hn
  have ne' := ids_ne h1 t1 hO
  have ti : kt.isInterface = false := by simp at t4; exact t4.1
  have sub : ∀ fuel, Z.vm.isSubclassAux fuel c t = false := fun fuel => by
    cases fuel with
    | zero => rfl
    | succ f => cases f with
      | zero => simp [Vm.isSubclassAux, ne, h2, h4]
      | succ f => simp [Vm.isSubclassAux, ne, ne', h2, h3, h4, g3]
  refine ⟨c, t, h0, t1, ?_⟩
  show Z.vm.assignableAux (255 + 1) c t = false
  simp [Vm.assignableAux, ne, h2, t2, h5, t3, ti, Vm.isSubclass, sub]
end Jvm.Own
namespace Jvm.Own
open Sem ClassFile Op Lib Bundle Jvm.Stand Jvm.Free Jvm.LawKit Jvm.RoadKit
theorem shr0 (n : Int32) : n >>> (0 : Int32) = n := by
  apply Int32.toInt_inj.mp
  simp
end Jvm.Own
namespace Jvm.Own
open Sem ClassFile Op Lib Bundle Jvm.Stand Jvm.Free Jvm.LawKit Jvm.RoadKit
theorem n_add (a b : Nat) : a.toInt32 + b.toInt32 = (a + b).toInt32 := by
  show Int32.ofNat a + Int32.ofNat b = Int32.ofNat (a + b)
  rw [Int32.ofNat_add]
theorem n_sub {a b : Nat} (h : b ≤ a) : a.toInt32 - b.toInt32 = (a - b).toInt32 := by
  have e : (a - b).toInt32 + b.toInt32 = a.toInt32 := by rw [n_add]; congr 1; omega
  rw [← e, Int32.add_sub_cancel]
end Jvm.Own
namespace Jvm.Own
open Sem ClassFile Op Lib Bundle Jvm.Stand Jvm.Free Jvm.LawKit Jvm.RoadKit
theorem args_ls {args : List Value} {Ls : List Slot} {n : Nat} (h : Sym.laidSlots args ++ List.replicate (n - (Sym.laidSlots args).length) .unset = Ls) : argsToLocals args.toArray n = Ls.toArray := by
  apply Array.toList_inj.mp
  rw [Sym.argsToLocals_toList]
  exact h
end Jvm.Own
namespace Jvm.Own
open Sem ClassFile Op Lib Bundle Jvm.Stand Jvm.Free Jvm.LawKit Jvm.RoadKit
/-! ### a cell that the walk won't write again -/
def Frz (As : List Ent) (a : Addr) (sc : SC) (As' : List Ent) : Prop := ∃ pre post, As = pre ++ (a, true, sc) :: post ∧ As' = pre ++ (a, false, sc) :: post
section Frzs
variable {G : Gx} {As As' As'' : List Ent} {a b x : Addr} {w : Bool} {sc sc' : SC} {e : Ent} {h : Heap} {C O n d : String} {fs : List Fd} {vs us : List Value} {t : FieldType}
theorem Frz.head : Frz ((a, true, sc) :: As) a sc ((a, false, sc) :: As) := ⟨[], As, rfl, rfl⟩
theorem Frz.tail (u : Frz As a sc As') : Frz (e :: As) a sc (e :: As') := by obtain ⟨pre, post, rfl, rfl⟩ := u; exact ⟨e :: pre, post, rfl, rfl⟩
theorem Frz.of_mem (hm : (a, true, sc) ∈ As) : ∃ As', Frz As a sc As' := by obtain ⟨pre, post, rfl⟩ := List.append_of_mem hm; exact ⟨_, pre, post, rfl, rfl⟩
theorem Frz.new (u : Frz As a sc As') : (a, false, sc) ∈ As' := by obtain ⟨pre, post, rfl, rfl⟩ := u; simp
theorem Frz.other (u : Frz As a sc As') (he : e ∈ As) (hne : e ≠ (a, true, sc)) : e ∈ As' := by
  obtain ⟨pre, post, rfl, rfl⟩ := u
  rcases List.mem_append.mp he with he | he
  · exact List.mem_append_left _ he
  · rcases List.mem_cons.mp he with rfl | he
    · exact absurd rfl hne
    · exact List.mem_append_right _ (List.mem_cons_of_mem _ he)
theorem Des.frz {Z : State} {a0 : Array Value} (D : Des Z a0 h a true sc) : Des Z a0 h a false sc := by
  rcases sc with ⟨C, fs, vs⟩ | ⟨t, vs⟩
  · exact ⟨D.1, D.2.1, D.2.2.1, fun q => nomatch q⟩
  · obtain ⟨c, A, r1, r2, r3, -⟩ := D
    exact ⟨c, A, r1, r2, r3, fun q => nomatch q⟩
theorem Inv.frz (I : Inv G As h) (u : Frz As a sc As') : Inv G As' h := by
  obtain ⟨pre, post, rfl, rfl⟩ := u
  refine ⟨I.1, ?_, fun e he => ?_⟩
  · have sp := I.2.1
    simp only [Sep, List.map_append, List.map_cons, List.pairwise_append, List.pairwise_cons] at sp ⊢
    refine ⟨sp.1, ⟨fun p hp q => sp.2.1.1 p hp (by simp), sp.2.1.2⟩, fun p hp q hq r => ?_⟩
    rcases List.mem_cons.mp hq with rfl | hq
    · exact sp.2.2 p hp (a, true) (List.mem_cons_self ..) (by simp)
    · exact sp.2.2 p hp q (List.mem_cons_of_mem _ hq) r
  · rcases List.mem_append.mp he with he | he
    · exact I.2.2 e (List.mem_append_left _ he)
    · rcases List.mem_cons.mp he with rfl | he
      · exact ⟨(fun q => nomatch q), (I.2.2 (a, true, sc) (List.mem_append_right _ (List.mem_cons_self ..))).2.frz⟩
      · exact I.2.2 e (List.mem_append_right _ (List.mem_cons_of_mem _ he))
/-- a String that won't be written again: its signs -/
def StrF (As : List Ent) (a : Addr) (bs : List Value) : Prop :=
  ∃ b fs vs, (a, false, obj STR fs vs) ∈ As ∧ FAt fs vs STR "value" "[B" (.ref b) ∧ FAt fs vs STR "coder" "B" (.int 0) ∧ (b, false, arr .byte bs) ∈ As
theorem StrF.str (q : StrF As a vs) : StrIn G As a vs 0 := by
  obtain ⟨b, fs, us, h1, h2, h3, h4⟩ := q; exact ⟨b, Is.mem h1, FIn.mem h1 h2, FIn.mem h1 h3, AVin.mem h4⟩
theorem StrF.is (q : StrF As a vs) : Is G As a STR := by obtain ⟨b, fs, us, h1, h2, h3, h4⟩ := q; exact Is.mem h1
theorem StrF.sub (q : StrF As a vs) (s : Sub As As') : StrF As' a vs := by
  obtain ⟨b, fs, us, h1, h2, h3, h4⟩ := q; exact ⟨b, fs, us, s _ h1, h2, h3, s _ h4⟩
theorem StrF.upd (q : StrF As a vs) (u : Upd As x sc sc' As') : StrF As' a vs := by
  obtain ⟨b, fs, us, h1, h2, h3, h4⟩ := q; exact ⟨b, fs, us, u.other h1 (fun r => by simp at r), h2, h3, u.other h4 (fun r => by simp at r)⟩
theorem StrF.frz (q : StrF As a vs) (u : Frz As x sc As') : StrF As' a vs := by
  obtain ⟨b, fs, us, h1, h2, h3, h4⟩ := q; exact ⟨b, fs, us, u.other h1 (fun r => by simp at r), h2, h3, u.other h4 (fun r => by simp at r)⟩
theorem StrF.lit (h2 : (a, false, obj STR litF [.ref b, .int 0]) ∈ As) (h3 : (b, false, arr .byte vs) ∈ As) : StrF As a vs := ⟨b, _, _, h2, FAt.head, FAt.tail FAt.head, h3⟩
/-- what is not written any more stays -/
def Stay (As As' : List Ent) : Prop := ∀ e ∈ As, e.2.1 = false → e ∈ As'
theorem Stay.refl (As : List Ent) : Stay As As := fun _ h _ => h
theorem Stay.trans (p : Stay As As') (q : Stay As' As'') : Stay As As'' := fun e h w => q e (p e h w) w
theorem Sub.stay (p : Sub As As') : Stay As As' := fun e h _ => p e h
theorem Upd.stay (u : Upd As a sc sc' As') : Stay As As' := fun e h w => u.other h (fun q => by subst q; cases w)
theorem Frz.stay (u : Frz As a sc As') : Stay As As' := fun e h w => u.other h (fun q => by subst q; cases w)
theorem StrF.stay (q : StrF As a vs) (s : Stay As As') : StrF As' a vs := by
  obtain ⟨b, fs, us, h1, h2, h3, h4⟩ := q; exact ⟨b, fs, us, s _ h1 rfl, h2, h3, s _ h4 rfl⟩
theorem LitOk.stay {Li : List LitE} {own text : String} {idx : Nat} (q : LitOk As Li own idx text vs) (s : Stay As As') : LitOk As' Li own idx text vs :=
  q.imp id fun ⟨a, b, h1, h2, h3⟩ => ⟨a, b, h1, s _ h2 rfl, s _ h3 rfl⟩
/-- all but two cells stay -/
def Kp2 (As : List Ent) (x y : Ent) (As' : List Ent) : Prop := ∀ e ∈ As, e ≠ x → e ≠ y → e ∈ As'
theorem Kp2.stay {x y : Ent} (q : Kp2 As x y As') (hx : x.2.1 = true) (hy : y.2.1 = true) : Stay As As' := fun e h w => q e h (fun r => by subst r; rw [hx] at w; cases w) (fun r => by subst r; rw [hy] at w; cases w)
end Frzs
section Laws
variable {G : Gx} {K : Kx} {y : MethodName} {code : ByteArray} {ret : Option FieldType} {R : Room} {Q : Qx} {As As' : List Ent} {Li Li' : List LitE} {cells slots pc pc' : Nat} {Ls Ls' : List Slot} {st st' : List Value} {idx : Nat} {a b : Addr} {C O n d R0 host : String} {v : Value} {sc : SC} {t : FieldType} {vs us us' : List Value}
theorem W.frz (u : Frz As a sc As') (nx : W G K y code ret R Q As' Li cells slots pc Ls st) : W G K y code ret R Q As Li cells slots pc Ls st :=
  fun T vm0 k0 locs ok X hS hk hN hI hL hF => nx T vm0 k0 locs ok X hS hk hN (hI.frz u) hL hF
theorem AV.arv {Z : State} {h : Heap} {w : Bool} (A : AV Z h a w t vs) : ∃ k, Arv Z h a k t vs.length.toInt32 vs .null ∧ (w = true → t = .byte → Z.vm.findClass "[B" = some k) := by
  obtain ⟨c, A, e1, e2, e3, e4⟩ := A
  have hs : c.slots.size = vs.length := by rw [← e1]; simp
  refine ⟨c.cls, ⟨c, A, rfl, by rw [n_clamp e2, hs], n_nn e2, fun k hk => ?_, fun i hi => ?_⟩, fun hw ht => (e4 hw).2 ht⟩
  · have hk' : k < vs.length := by rw [← hs]; exact hk
    rw [List.getD_eq_getElem?_getD, List.getElem?_eq_getElem hk', Option.getD_some, ← Array.getElem?_toList, e1, List.getElem?_eq_getElem hk']
  · have hi' : i < vs.length := by rw [← hs]; exact hi
    rw [List.getD_eq_getElem?_getD, List.getElem?_eq_getElem hi', Option.getD_some]
    exact e3 _ (List.getElem_mem hi')
theorem AV.of_arv {Z : State} {h : Heap} {w : Bool} {k : ClassId} {z : Int32} {dv : Value} (A : Arv Z h a k t z vs dv) (hz : z.toNatClampNeg = vs.length) (h31 : vs.length < 2147483648) (rk : refKind t = false) (hB : t = .byte → Z.vm.findClass "[B" = some k) : AV Z h a w t vs := by
  obtain ⟨c, A, ek, e2, -, e4, e5⟩ := A
  have hs : c.slots.size = vs.length := e2.trans hz
  refine ⟨c, A, List.ext_getElem? fun i => ?_, h31, fun v hv => ?_, fun _ => ⟨(fun C e => by subst e; cases rk), fun e => by rw [ek]; exact hB e⟩⟩
  · by_cases hi : i < vs.length
    · have := e4 i (by omega)
      rw [List.getD_eq_getElem?_getD, List.getElem?_eq_getElem hi, Option.getD_some] at this
      rw [Array.getElem?_toList, this, List.getElem?_eq_getElem hi]
    · rw [List.getElem?_eq_none (by rw [Array.length_toList]; omega), List.getElem?_eq_none (by omega)]
  · obtain ⟨i, hi, rfl⟩ := List.getElem_of_mem hv
    have := e5 i (by omega)
    rwa [List.getD_eq_getElem?_getD, List.getElem?_eq_getElem hi, Option.getD_some] at this
theorem nfw : nativeFrameWords "java/lang/System" "arraycopy" 5 = 7 := by decide +kernel
/-- System.arraycopy of an array of primitives into one of the walk's own -/
theorem W.acopy {sp dp nn : Int32} {i j n : Nat} (hd : decode code pc = .ok (.invokestatic idx, 3)) (w1 : (Cond.methodLink y.cls idx Jvm.Stand.acN).before G.a0 G.Z = true) (w2 : (Cond.native Jvm.Stand.acN).before G.a0 G.Z = true) (w3 : (Cond.static Jvm.Stand.acN).before G.a0 G.Z = true) (w4 : (Cond.initialized "java/lang/System").before G.a0 G.Z = true)
    (hs : AVin G As a t vs) (rk : refKind t = false) (h1 : ¬ sp < 0) (h2 : ¬ dp < 0) (h3 : ¬ nn < 0) (hi : sp.toNatClampNeg = i) (hj : dp.toNatClampNeg = j) (hn : nn.toNatClampNeg = n) (l1 : i + n ≤ vs.length) (l2 : j + n ≤ us.length)
    (hv : us.take j ++ (vs.drop i).take n ++ us.drop (j + n) = us') (up : Upd As b (arr t us) (arr t us') As') (hf : 1 ≤ R.frames) (hl : wt st + 18 ≤ R.locals)
    (nx : W G K y code ret R Q As' Li cells slots (pc + 3) Ls st) : W G K y code ret R Q As Li cells slots pc Ls (.int nn :: .int dp :: .ref b :: .int sp :: .ref a :: st) := by
  intro T vm0 k0 locs ok X hS hk hN hI hL hF
  have hm := up.mem
  have AB : AV G.Z T.heap b true t us := hI.av hm
  have AA := hs.get hI
  obtain ⟨wa, AA⟩ : ∃ w, AV G.Z T.heap a w t vs := ⟨_, AA⟩
  obtain ⟨ka, A1, -⟩ := AA.arv
  obtain ⟨kb, B1, B1'⟩ := AB.arv
  have a31 : vs.length < 2147483648 := by obtain ⟨_, _, _, q, _⟩ := AA; exact q
  have b31 : us.length < 2147483648 := by obtain ⟨_, _, _, q, _⟩ := AB; exact q
  subst hi; subst hj; subst hn
  obtain ⟨T', h', L, X', e', F', Kp, B2, st'⟩ := cpA X ok.1 (ok_Z ok hS) (ok_own ok hS) w1 w2 w3 w4 rfl A1 B1 (Or.inl ⟨rfl, rk⟩) h1 h2 h3 (by rw [n_clamp a31]; exact l1) (by rw [n_clamp b31]; exact l2) rfl l2 hF ((hI.2.2 _ hm).1 rfl)
    (g := mkF K.m pc Ls.toArray (.int nn :: .int dp :: .ref b :: .int sp :: .ref a :: st)) rfl (by rw [ok.2.2.1]; simp) rfl (hb ok.2.1 hd) hf (wt_le st) (by rw [nfw]; exact hl)
  have eu : ((List.range nn.toNatClampNeg).map fun i => vs.getD (sp.toNatClampNeg + i) Value.null) = (vs.drop sp.toNatClampNeg).take nn.toNatClampNeg := by
    refine List.ext_getElem (by simp; omega) fun i q1 q2 => ?_
    have q : sp.toNatClampNeg + i < vs.length := by simp at q1; omega
    simp [List.getD_eq_getElem?_getD, List.getElem?_eq_getElem q]
  rw [eu, hv] at B2
  have ul : us'.length = us.length := by rw [← hv]; simp; omega
  have D : Des G.Z G.a0 h' b true (arr t us') := AV.of_arv B2 (by rw [n_clamp b31, ul]) (by rw [ul]; exact b31) rk (B1' rfl)
  obtain ⟨U, u', g1, g2⟩ := nx T' vm0 k0 L ok X' hS (by rw [e']; exact Nat.le_trans hk Kp.1) hN (by rw [e']; exact hI.upd up (fun x hx c q => Kp.2.1 x c q (by simpa using hx)) Kp.1 D) hL F'
  exact ⟨U, u', st' _ g1, g2⟩
end Laws
end Jvm.Own
namespace Jvm.Own
open Sem ClassFile Op Lib Bundle Jvm.Stand Jvm.Free Jvm.LawKit Jvm.RoadKit
/-- the lookup from a class that declares the method finds it: no word of its own is needed where a class selects another of its methods -/
theorem same_of {Z : State} {a0 : Array Value} {C : String} {z z' : MethodName} (wi : (Cond.instanceMethod z).before a0 Z = true) (ws : (Cond.selects C z' z').before a0 Z = true) (hc : z'.cls = z.cls) (hy : z.cls ≠ "java/lang/invoke/MethodHandle" ∧ z.cls ≠ "java/lang/invoke/VarHandle") :
    (Cond.sameMethod z.cls z.cls z.name z.desc).before a0 Z = true := by
  obtain ⟨mk, meth, hn, -⟩ := Cond.instanceMethod_spec wi
  have hf := State.methodFound?_of_named hn hy
  have hcl := findClass_of_methodNamed hn
  obtain ⟨c2, r2, m2, q1, q2, q3, q4, kP, hkP, hkPi⟩ := Cond.selects_spec ws
  have hcl' := findClass_of_methodNamed q3
  rw [hc] at hcl'
  have e : mk.cls = m2.cls := by
    first | exact Option.some.inj (hcl.symm.trans hcl') | (exact (Option.some.inj (hcl.symm.trans hcl')))
  have hkP' : Z.vm.classes[mk.cls]? = some kP := by rw [e]; exact hkP
  have hn' : Z.methodNamed? ⟨z.cls, z.name, z.desc⟩ = some mk := hn
  simp [Cond.before, Cond.holds, Cond.value, hcl, hf, hn', hkP', hkPi]
end Jvm.Own
namespace Jvm.Own
open Sem ClassFile Op Lib Bundle Jvm.Stand Jvm.Free Jvm.LawKit Jvm.RoadKit
/-! ### a builder's bytes -/
def pad (xs : List Int32) (cap : Nat) : List Value := xs.map Value.int ++ List.replicate (cap - xs.length) (.int 0)
def grow (cap need : Nat) : Nat := if need ≤ cap then cap else cap + max (need - cap) (cap + 2)
section
variable {xs ys : List Int32} {cap cap' need a b : Nat}
theorem pad_len (h : xs.length ≤ cap) : (pad xs cap).length = cap := by simp [pad]; omega
theorem pad_nil (cap : Nat) : pad [] cap = List.replicate cap (.int 0) := by simp [pad]
theorem pad_grow (h : xs.length ≤ cap) (h2 : cap ≤ cap') : pad xs cap ++ List.replicate (cap' - cap) (.int 0) = pad xs cap' := by
  rw [pad, pad, List.append_assoc, List.replicate_append_replicate]; congr 2; omega
theorem pad_take (xs : List Int32) (cap : Nat) : (pad xs cap).take xs.length = xs.map Value.int := by
  rw [pad, List.take_left' (by simp)]
theorem pad_put (h : xs.length + ys.length ≤ cap) : (pad xs cap).take xs.length ++ ys.map Value.int ++ (pad xs cap).drop (xs.length + ys.length) = pad (xs ++ ys) cap := by
  rw [pad_take, pad, pad, List.drop_append, List.drop_eq_nil_of_le (by simp), List.nil_append, List.drop_replicate, List.map_append]
  congr 2
  simp; omega
theorem grow_le (h : need ≤ cap) : grow cap need = cap := if_pos h
theorem grow_ge : need ≤ grow cap need := by unfold grow; split <;> omega
theorem grow_mono : cap ≤ grow cap need := by unfold grow; split <;> omega
theorem grow_gt (h : ¬ need ≤ cap) : grow cap need = cap + max (need - cap) (cap + 2) := if_neg h
theorem n_lt_iff (ha : a < 2147483648) (hb : b < 2147483648) : a.toInt32 < b.toInt32 ↔ a < b := ⟨fun h => Nat.lt_of_not_le fun q => n_nlt q ha h, fun h => n_lt h hb⟩
theorem n_pos (h : 0 < a) (ha : a < 2147483648) : (0 : Int32) < a.toInt32 := n_lt (a := 0) h ha
theorem n_subnp (h : a ≤ b) (hb : b < 2147483648) : ¬ (0 : Int32) < a.toInt32 - b.toInt32 := by
  have e : a.toInt32 - b.toInt32 = -((b - a).toInt32) := by rw [← n_sub h, Int32.neg_sub]
  rw [e, Int32.lt_iff_toInt_lt]
  have h1 := n_toInt (a := b - a) (by omega)
  have h0 : (0 : Int32).toInt = 0 := rfl
  rw [Int32.toInt_neg, h1, h0]
  have : (-((b - a : Nat) : Int)).bmod (2 ^ 32) = -((b - a : Nat) : Int) := Int.bmod_eq_of_le (by omega) (by omega)
  omega
theorem n_ne (h : a ≠ b) (ha : a < 2147483648) (hb : b < 2147483648) : ¬ a.toInt32 = b.toInt32 := fun q => h (n_inj ha hb q)
theorem n_max (ha : a < 2147483648) (hb : b < 2147483648) : (h : a.toInt32 < b.toInt32) → max a b = b := fun h => Nat.max_eq_right (Nat.le_of_lt ((n_lt_iff ha hb).mp h))
theorem n_max' (ha : a < 2147483648) (hb : b < 2147483648) : (h : ¬ a.toInt32 < b.toInt32) → max a b = a := fun h => Nat.max_eq_left (Nat.le_of_not_lt fun q => h ((n_lt_iff ha hb).mpr q))
theorem n_min (ha : a < 2147483648) (hb : b < 2147483648) : (h : b.toInt32 < a.toInt32) → min a b = b := fun h => Nat.min_eq_right (Nat.le_of_lt ((n_lt_iff hb ha).mp h))
theorem n_min' (ha : a < 2147483648) (hb : b < 2147483648) : (h : ¬ b.toInt32 < a.toInt32) → min a b = a := fun h => Nat.min_eq_left (Nat.le_of_not_lt fun q => h ((n_lt_iff hb ha).mpr q))
theorem shl0 (n : Int32) : n <<< ((0 : Int32) &&& 31) = n := by
  rw [show ((0 : Int32) &&& 31) = 0 from by decide]
  apply Int32.toBitVec_inj.mp
  simp
theorem shr0' (n : Int32) : n >>> ((0 : Int32) &&& 31) = n := by
  rw [show ((0 : Int32) &&& 31) = 0 from by decide]; exact shr0 n
end
end Jvm.Own
namespace Jvm.Own
open Sem ClassFile Op Lib Bundle Jvm.Stand Jvm.Free Jvm.LawKit Jvm.RoadKit
theorem decl_of {Z : State} {a0 : Array Value} {z : MethodName} {bytes : ByteArray} {mL : Nat} {ret : Option FieldType} (wi : (Cond.instanceMethod z).before a0 Z = true) (wc : (Cond.code z bytes mL ret).before a0 Z = true) : (Cond.declares z).before a0 Z = true := by
  obtain ⟨m, meth, hn, hm, hs, -⟩ := Cond.instanceMethod_spec wi
  obtain ⟨meth', c, hm', -, -, -, -, -, -, hsig⟩ := Cond.code_spec hn wc
  cases hm.symm.trans hm'
  simp [Cond.before, Cond.holds, Cond.value, hn, hm, hs, hsig]
end Jvm.Own
namespace Jvm.Own
open Sem ClassFile Op Lib Bundle Jvm.Stand Jvm.Free Jvm.LawKit Jvm.RoadKit
theorem nf_cls {G : Gx} {C : String} {x z' : MethodName} (ws : (Cond.selects C z' z').before G.a0 G.Z = true) (hc : z'.cls = x.cls) : ∀ s : State, G.Z.Warmed39 s.vm → NotFace s x := fun s hZ r0 h0 => by
  obtain ⟨c2, r2, m2, q1, q2, q3, q4, kP, hkP, hkPi⟩ := Cond.selects_spec (mvT (args := #[]) hZ ws)
  have e1 := findClass_of_methodNamed h0
  have e2 := findClass_of_methodNamed q3
  rw [hc] at e2
  have e : r0.cls = m2.cls := Option.some.inj (e1.symm.trans e2)
  exact ⟨kP, by rw [e]; exact hkP, hkPi⟩
end Jvm.Own
namespace Jvm.Own
open Sem ClassFile Op Lib Bundle Jvm.Stand Jvm.Free Jvm.LawKit Jvm.RoadKit
theorem LX.not {Ts : List String} {Li L : List LitE} {t : String} (a : LX Ts Li L) (h : t ∉ Li.map fun q => q.2.2.1) (ht : t ∉ Ts) : t ∉ L.map fun q => q.2.2.1 := by
  obtain ⟨M, rfl, g⟩ := a
  intro q
  rw [List.map_append] at q
  rcases List.mem_append.mp q with q | q
  · obtain ⟨r, hr, e⟩ := List.mem_map.mp q
    exact ht (e ▸ g r hr)
  · exact h q
theorem perm22 {α : Type} {a b c d : α} {l : List α} : (a :: b :: c :: d :: l).Perm (c :: d :: a :: b :: l) :=
  List.perm_append_comm_assoc [a, b] [c, d] l
/-- the signs of a text, as a builder holds them -/
def txb (s : String) : List Int32 := s.toList.map fun c => Jvm.Lit.byteI c.toNat.toUInt16
theorem txb_map (s : String) : (s.toList.map fun c => Value.int (Jvm.Lit.byteI c.toNat.toUInt16)) = (txb s).map Value.int := by simp [txb, List.map_map, Function.comp_def]
theorem txb_len (s : String) : (txb s).length = s.toList.length := by simp [txb]
end Jvm.Own
namespace Jvm.Own
open Sem ClassFile Op Lib Bundle Jvm.Stand Jvm.Free Jvm.LawKit Jvm.RoadKit
section
variable {As R : List Ent} {x y e : Ent} {a : Addr} {vs : List Value}
theorem two_front (hx : x ∈ As) (hy : y ∈ As) (hne : y ≠ x) : ∃ R, As.Perm (x :: y :: R) := by
  obtain ⟨p, q, rfl⟩ := List.append_of_mem hx
  have hy' : y ∈ p ++ q := by
    rcases List.mem_append.mp hy with h | h
    · exact List.mem_append_left _ h
    · rcases List.mem_cons.mp h with h | h
      · exact absurd h hne
      · exact List.mem_append_right _ h
  obtain ⟨p', q', e⟩ := List.append_of_mem hy'
  refine ⟨p' ++ q', List.perm_middle.trans (List.Perm.cons _ ?_)⟩
  rw [e]
  exact List.perm_middle
theorem in_front (hp : As.Perm (x :: y :: R)) (hx : x.2.1 = true) (hy : y.2.1 = true) (he : e ∈ As) (hw : e.2.1 = false) : e ∈ R := by
  rcases List.mem_cons.mp (hp.mem_iff.mp he) with rfl | h
  · rw [hx] at hw; cases hw
  · rcases List.mem_cons.mp h with rfl | h
    · rw [hy] at hw; cases hw
    · exact h
theorem StrF.front (q : StrF As a vs) (hp : As.Perm (x :: y :: R)) (hx : x.2.1 = true) (hy : y.2.1 = true) : StrF R a vs := by
  obtain ⟨b, fs, us, h1, h2, h3, h4⟩ := q
  exact ⟨b, fs, us, in_front hp hx hy h1 rfl, h2, h3, in_front hp hx hy h4 rfl⟩
end
end Jvm.Own
namespace Jvm.Own
open Sem ClassFile Op Lib Bundle Jvm.Stand Jvm.Free Jvm.LawKit Jvm.RoadKit
section Laws
variable {G : Gx} {K : Kx} {y : MethodName} {code : ByteArray} {ret : Option FieldType} {R : Room} {Q : Qx} {As As' : List Ent} {Li Li' : List LitE} {cells slots pc pc' : Nat} {Ls Ls' : List Slot} {st st' : List Value} {idx : Nat} {a b : Addr} {vs : List Value}
/-- a byte[] of the walk's own is cloned -/
theorem W.cloneB (cap : Nat) (hd : decode code pc = .ok (.invokevirtual idx, 3)) (w1 : (Cond.methodLink y.cls idx ⟨"[B", "clone", "()Ljava/lang/Object;"⟩).before G.a0 G.Z = true) (w2 : (Cond.sameMethod "[B" "java/lang/Object" "clone" "()Ljava/lang/Object;").before G.a0 G.Z = true) (w3 : (Cond.native ⟨"java/lang/Object", "clone", "()Ljava/lang/Object;"⟩).before G.a0 G.Z = true)
    (w4 : (Cond.instanceMethod ⟨"java/lang/Object", "clone", "()Ljava/lang/Object;"⟩).before G.a0 G.Z = true) (w5 : (Cond.selects "[B" ⟨"[B", "clone", "()Ljava/lang/Object;"⟩ ⟨"java/lang/Object", "clone", "()Ljava/lang/Object;"⟩).before G.a0 G.Z = true) (w6 : (Cond.castable "[B" "java/lang/Cloneable").before G.a0 G.Z = true)
    (hm : (a, true, arr .byte vs) ∈ As) (hcap : vs.length ≤ cap) (hf : 1 ≤ R.frames) (hl : wt st + 14 ≤ R.locals) (hc : cells + 1 ≤ R.cells) (hs : slots + cap ≤ R.slots)
    (nx : ∀ o, W G K y code ret R Q ((o, true, arr .byte vs) :: As) Li (cells + 1) (slots + cap) (pc + 3) Ls (.ref o :: st)) : W G K y code ret R Q As Li cells slots pc Ls (.ref a :: st) := by
  intro T vm0 k0 locs ok X hS hk hN hI hL hF
  obtain ⟨c, A, e1, e2, e3, e4⟩ := hI.av hm
  have hB := (e4 rfl).2 rfl
  obtain ⟨hst, k, hkk, comp, hkind⟩ := A.2.1
  have hvm : c.vm.isStatics = false := by
    cases hq : c.vm <;> first | rfl | exact absurd hq (hst _)
  have E : Exa G.Z T.heap a "[B" := ⟨c, k, A.1, hB, hkk, hvm, fun q => by rw [hkind] at q; cases q⟩
  have F : FitC G.Z c := fun i v hv => by
    have hmem : v ∈ vs := by
      rw [← e1]
      obtain ⟨hi, rfl⟩ := Array.getElem?_eq_some_iff.mp hv
      simp
    have q := e3 v hmem
    simp [State.fitsSlot, State.slotType?, hkk, hkind, q]
  obtain ⟨T', h', X', e', Ex, A', E', st'⟩ := cloneA X ok.1 (ok_Z ok hS) (ok_own ok hS) w1 w2 w3 w4 w5 w6 rfl A E F (g := mkF K.m pc Ls.toArray (.ref a :: st)) rfl (by rw [ok.2.2.1]; simp) rfl (hb ok.2.1 hd) hf (wt_le st) hl (cap := cap) (by rw [size_of e1]; exact hcap) hc hs
  have hD : Des G.Z G.a0 h' T.heap.size true (arr .byte vs) := ⟨_, A', e1, e2, e3, fun _ => ⟨(fun C q => by cases q), fun _ => hB⟩⟩
  obtain ⟨U, u, g1, g2⟩ := nx T.heap.size T' vm0 k0 locs ok X' hS (by rw [e']; exact Nat.le_trans hk Ex.1) hN (by rw [e']; exact hI.push Ex hD) hL hF
  exact ⟨U, u, st' _ g1, g2⟩
/-- a byte[] of the walk's own is of the class "[B" -/
theorem W.castB {D : String} (wl : (Cond.classLink y.cls idx "[B").before G.a0 G.Z = true) (hd : decode code pc = .ok (.checkcast idx, 3)) (hm : (a, true, arr .byte vs) ∈ As)
    (nx : W G K y code ret R Q As Li cells slots (pc + 3) Ls (.ref a :: st)) : W G K y code ret R Q As Li cells slots pc Ls (.ref a :: st) := by
  intro T vm0 k0 locs ok X hS hk hN hI hL hF
  obtain ⟨c, A, e1, e2, e3, e4⟩ := hI.av hm
  have hB := (e4 rfl).2 rfl
  obtain ⟨hst, k, hkk, comp, hkind⟩ := A.2.1
  have hvm : c.vm.isStatics = false := by
    cases hq : c.vm <;> first | rfl | exact absurd hq (hst _)
  have E : Exa G.Z T.heap a "[B" := ⟨c, k, A.1, hB, hkk, hvm, fun q => by rw [hkind] at q; cases q⟩
  obtain ⟨T', X', e', st'⟩ := castY X ok.1 (ok_Z ok hS) (ok_own ok hS) wl rfl (Ins.self E) (g := mkF K.m pc Ls.toArray (.ref a :: st)) rfl rfl (hb ok.2.1 hd)
  obtain ⟨U, u, h1, h2⟩ := nx T' vm0 k0 locs ok X' hS (by rw [e']; exact hk) hN (by rw [e']; exact hI) hL hF
  exact ⟨U, u, st' _ h1, h2⟩
end Laws
/-! ### all String constants that the walk has loaded are here -/
section LAs
variable {As As' : List Ent} {Li : List LitE} {a b : Addr} {own text : String} {idx : Nat} {sc sc' : SC} {e : Ent}
def LA (As : List Ent) (Li : List LitE) : Prop := ∀ q ∈ Li, ∃ b, (q.2.2.2, false, obj "java/lang/String" litF [.ref b, .int 0]) ∈ As ∧ (b, false, arr .byte ((txb q.2.2.1).map Value.int)) ∈ As
theorem LA.nil (As : List Ent) : LA As [] := fun _ h => nomatch h
theorem LA.stay (h : LA As Li) (s : Stay As As') : LA As' Li := fun q hq => by obtain ⟨b, h1, h2⟩ := h q hq; exact ⟨b, s _ h1 rfl, s _ h2 rfl⟩
theorem LA.sub (h : LA As Li) (s : Sub As As') : LA As' Li := h.stay s.stay
theorem LA.cons1 (h : LA As Li) : LA (e :: As) Li := h.sub (Sub.cons (Sub.refl _))
theorem LA.lit (h : LA As Li) : LA ((a, false, obj "java/lang/String" litF [.ref b, .int 0]) :: (b, false, arr .byte ((txb text).map Value.int)) :: As) ((own, idx, text, a) :: Li) := fun q hq => by
  rcases List.mem_cons.mp hq with rfl | hq
  · exact ⟨b, List.Mem.head _, List.Mem.tail _ (List.Mem.head _)⟩
  · obtain ⟨c, h1, h2⟩ := h q hq; exact ⟨c, List.Mem.tail _ (List.Mem.tail _ h1), List.Mem.tail _ (List.Mem.tail _ h2)⟩
theorem LA.g (h : LA As Li) (text : String) : LitG As Li text ((txb text).map Value.int) := fun q hq e => by subst e; exact h q hq
theorem LA.perm (h : LA As Li) (p : As.Perm As') : LA As' Li := h.sub fun e he => p.mem_iff.mp he
theorem LA.front {x y : Ent} {R : List Ent} (h : LA As Li) (hp : As.Perm (x :: y :: R)) (hx : x.2.1 = true) (hy : y.2.1 = true) : LA R Li := fun q hq => by
  obtain ⟨b, h1, h2⟩ := h q hq; exact ⟨b, in_front hp hx hy h1 rfl, in_front hp hx hy h2 rfl⟩
end LAs
end Jvm.Own
namespace Jvm.Own
open Sem ClassFile Op Lib Bundle Jvm.Stand Jvm.Free Jvm.LawKit Jvm.RoadKit
section Laws
variable {G : Gx} {K : Kx} {y : MethodName} {code : ByteArray} {ret : Option FieldType} {R : Room} {Q : Qx} {As As' : List Ent} {Li Li' : List LitE} {cells slots pc pc' : Nat} {Ls Ls' : List Slot} {st st' : List Value} {idx : Nat}
/-- a lambda that captures nothing: its site hands out its one object -/
theorem W.lam0 {σ : Lambda.Shape} (hd : decode code pc = .ok (.invokedynamic idx, 5)) (wl : (Cond.lambdaSite y pc idx σ).before G.a0 G.Z = true) (hc : σ.captured = []) (hw : wt st + 3072 ≤ R.locals)
    (nx : ∀ a, W G K y code ret R Q As Li cells slots (pc + 5) Ls (.ref a :: st)) : W G K y code ret R Q As Li cells slots pc Ls st := by
  intro T vm0 k0 locs ok X hS hk hN hI hL hF
  have hZ : G.Z.Warmed39 vm0 := ok_Z ok hS
  obtain ⟨cK, one, hat⟩ := Cond.lambdaSite_spec wl
  obtain ⟨m', kS, cfS, i0, p0, lk, hm', hkS, hcfS, -, -, hfind, -, -, hlk⟩ := State.lambdaAt?_spec hat
  obtain ⟨a, cell, rfl, -⟩ : ∃ a cell, lk = .constant a ∧ one = some a ∧ σ.captured = [] ∧ G.Z.heap[a]? = some cell ∧ cell.cls = cK ∧ cell.vm = .none ∧ cell.slots = #[] := by
    rcases hlk with h | ⟨-, -, h⟩
    · exact h
    · exact absurd hc h
  have hn := ok.2.2.2.2.2.2.2.2.1
  have e1 : (K.s.setVm K.s.vm).methodNamed? y = G.Z.methodNamed? y := by
    have q := State.methodNamed?_setVm (s := G.Z) (vm' := K.s.vm) ok.2.2.2.1.alike y
    rw [← q]
    exact congrFun (State.methodNamed?_of_vm rfl) y
  have e2 : K.s.methodNamed? y = (K.s.setVm K.s.vm).methodNamed? y := congrFun (State.methodNamed?_of_vm rfl) y
  have em : m' = K.m := by
    rw [e2, e1, hm'] at hn
    exact Option.some.inj hn
  subst em
  obtain ⟨k', hk', he'⟩ := hZ.alike.2.2 _ _ hkS
  have hsite : (k'.callSites.find? fun y => y.1 == K.m.idx && y.2.1 == pc) = some (i0, p0, .constant a) := by rw [he']; exact hfind
  obtain ⟨U, u, h1, h2⟩ := nx a T vm0 k0 locs ok X hS hk hN hI hL hF
  refine ⟨U, u, X.lambdaConstant ok.1 (g := mkF K.m pc Ls.toArray st) rfl (by rw [ok.2.2.1]; simp) (hb ok.2.1 hd) (s := K.s.setVm vm0) hk' hsite ?_ h1, h2⟩
  have hp := X.admits.platform
  rw [hp]
  show 2 * 0 + (st.map fun v => v.category).sum + 3072 ≤ R.locals
  simpa [wt] using hw
end Laws
end Jvm.Own
namespace Jvm.Own
open Sem ClassFile Op Lib Bundle Jvm.Stand Jvm.Free Jvm.LawKit Jvm.RoadKit
section Laws
variable {G : Gx} {K : Kx} {y : MethodName} {code : ByteArray} {ret : Option FieldType} {R : Room} {Q : Qx} {As As' : List Ent} {Li Li' : List LitE} {cells slots pc pc' : Nat} {Ls Ls' : List Slot} {st st' : List Value} {idx : Nat} {a b : Addr} {vs : List Value}
/-- a String that stood at the start comes to the list -/
theorem W.oldStr (E : Exa G.Z G.Z.heap a STR) (F1 : Fld G.Z G.Z.heap a STR "value" "[B" (.ref b)) (F2 : Fld G.Z G.Z.heap a STR "coder" "B" (.int 0)) (A : AV G.Z G.Z.heap b false .byte vs)
    (nx : W G K y code ret R Q ((a, false, obj STR litF [.ref b, .int 0]) :: (b, false, arr .byte vs) :: As) Li cells slots pc Ls st) : W G K y code ret R Q As Li cells slots pc Ls st := by
  intro T vm0 k0 locs ok X hS hk hN hI hL hF
  have E0 := hI.old
  have D1 : Des G.Z G.a0 G.Z.heap a false (obj STR litF [.ref b, .int 0]) := ⟨E, rfl, fun i f v hf hv => by
    match i, hf, hv with
    | 0, hf, hv => cases hf; cases hv; exact F1
    | 1, hf, hv => cases hf; cases hv; exact F2, fun q => nomatch q⟩
  have D2 : Des G.Z G.a0 G.Z.heap b false (arr .byte vs) := A
  have g1 := D1.lt
  have g2 := D2.lt
  exact nx T vm0 k0 locs ok X hS hk hN (hI.two (D1.cell fun c h => E0.2 _ c h) (D2.cell fun c h => E0.2 _ c h) fun e he hw => by
    have g3 := (hI.2.2 e he).1 hw
    exact ⟨Nat.ne_of_lt (Nat.lt_of_lt_of_le g1 g3), Nat.ne_of_lt (Nat.lt_of_lt_of_le g2 g3)⟩) hL hF
end Laws
theorem pad_set {xs : List Int32} {cap : Nat} {z : Int32} (h : xs.length < cap) : (pad xs cap).set xs.length (.int z) = pad (xs ++ [z]) cap := by
  obtain ⟨k, hk⟩ : ∃ k, cap - xs.length = k + 1 := ⟨cap - xs.length - 1, by omega⟩
  rw [pad, pad, hk, List.set_append_right _ _ (by simp), List.length_map, Nat.sub_self, List.replicate_succ, List.set_cons_zero, List.map_append, List.append_assoc, List.length_append, show cap - (xs.length + [z].length) = k by simp; omega]
  rfl
theorem n_pred (m : Nat) : (m + 1).toInt32 + -1 = m.toInt32 := by
  rw [← n_succ, Int32.add_assoc, show (1 : Int32) + -1 = 0 from by decide, Int32.add_zero]
end Jvm.Own
namespace Jvm.Own
open Sem ClassFile Op Lib Bundle Jvm.Stand Jvm.Free Jvm.LawKit Jvm.RoadKit
/-- a private method is what its class selects: no word of its own is needed where a class selects another of that class's methods -/
theorem sel_priv {Z : State} {a0 : Array Value} {C : String} {z z' : MethodName} (wi : (Cond.instanceMethod z).before a0 Z = true) (wp : (Cond.privateMethod z).before a0 Z = true) (ws : (Cond.selects C z' z').before a0 Z = true) (hc : z'.cls = z.cls) (hy : z.cls ≠ "java/lang/invoke/MethodHandle" ∧ z.cls ≠ "java/lang/invoke/VarHandle") :
    (Cond.selects z.cls z z).before a0 Z = true := by
  obtain ⟨mk, meth, hn, hm, -⟩ := Cond.instanceMethod_spec wi
  have hf := State.methodFound?_of_named hn hy
  have hcl := findClass_of_methodNamed hn
  have hpv := Cond.privateMethod_at wp mk meth hn hm
  have hsel : selectMethod {} Z.vm mk.cls mk = .method mk := selectMethod_private hm hpv
  obtain ⟨c2, r2, m2, q1, q2, q3, q4, kP, hkP, hkPi⟩ := Cond.selects_spec ws
  have hcl' := findClass_of_methodNamed q3
  rw [hc] at hcl'
  have e : mk.cls = m2.cls := Option.some.inj (hcl.symm.trans hcl')
  have hkP' : Z.vm.classes[mk.cls]? = some kP := by rw [e]; exact hkP
  simp [Cond.before, Cond.holds, Cond.value, hcl, hf, hn, hsel, hkP', hkPi]
end Jvm.Own
namespace Jvm.Own
open Sem ClassFile Op Lib Bundle Jvm.Stand Jvm.Free Jvm.LawKit Jvm.RoadKit Jvm.Free.Exc LibCode.Throwable
/-! ### a Throwable is made: what its constructor asks of the tables, told of the class that is made (C), not of Throwable itself -/
def thA (C : String) : List Jvm.Cond := [.initialized tN, .superclass tN "java/lang/Object", .instanceMethod tFill, .codeSync tFill Fill.code 1 (some (.object tN)), .instanceMethod tFill0, .native tFill0, .instanceMethod tInit0, .code tInit0 Init0.code 1 none,
  .instanceMethod oInit, .code oInit ⟨#[0xb1]⟩ 1 none, .methodLink tN 1 oInit, .methodLink tN 27 tFill, .methodLink tN 202 tFill0, .fieldLink tN 7 tN "cause" thD, .lays C tN "cause" thD, .fieldLink tN 17 tN "stackTrace" steD, .lays C tN "stackTrace" steD,
  .fieldLink tN 24 tN "suppressedExceptions" listD, .lays C tN "suppressedExceptions" listD, .fieldLink tN 13 tN "UNASSIGNED_STACK" steD, .laysStatic tN "UNASSIGNED_STACK" steD, .fieldLink tN 20 tN "SUPPRESSED_SENTINEL" listD, .laysStatic tN "SUPPRESSED_SENTINEL" listD,
  .fieldLink tN 31 tN "detailMessage" msgD, .lays C tN "detailMessage" msgD, .lays tN tN "detailMessage" msgD, .instanceMethod (initS tN), .code (initS tN) InitS.code 2 none, .fieldLink tN 198 tN "backtrace" obD, .lays C tN "backtrace" obD, .lays C tN "depth" "I",
  .selects C tFill0 tFill0, .selects C tFill tFill, .arrayOver (.object "java/lang/Object"), .soleField tN "backtrace", .soleField tN "depth"]
theorem thA_ok {C : String} : (thA C).all xOk = true := rfl
theorem sig_of {x : MethodName} {sg : MethodDescriptor} {ps : List FieldType} (h : parseMethodDescriptor x.desc = some sg) (e : (parseMethodDescriptor x.desc).map (·.parameters) = some ps) : sg.parameters = ps := by
  rw [h] at e; exact Option.some.inj e
theorem links_of {C : String} {args : Array Value} {s : State} {pl : Platform} (howns : pl.frameOwnsMonitors = true) (hfin : pl.finalization = false) (hpl : pl.magicAccessors = ({} : Platform).magicAccessors) {cC : ClassId} (hC : s.vm.findClass C = some cC) (h : ∀ c ∈ thA C, c.before args s = true) :
    ∃ (T : ThrowableC) (Z : Init0T), T.Links pl s ∧ Z.Laid T.toThrowableT ∧ Ties T Z s := by
  have w : ∀ {d : Jvm.Cond}, d ∈ thA C → d.holds args s none s [] = true := fun hd => h _ hd
  obtain ⟨⟨cT, i0⟩, m0, n0, q0, r1, r2, r3, r4⟩ := Cond.native_spec (w (d := .native tFill0) (by simp [thA]))
  have found : s.vm.findClass tN = some cT := findClass_of_methodNamed n0
  obtain ⟨kT, hkT, hnm⟩ := Vm.findClass_spec found
  obtain ⟨_, k1, _, _, hk1, _, _, hord, _, hni⟩ := Cond.superclass_spec found (w (d := .superclass tN "java/lang/Object") (by simp [thA]))
  cases hkT.symm.trans hk1
  obtain ⟨iF, mF, nF, qF, atF, f1, f2, -, -⟩ := Cond.ownMethod (x := tFill) found hkT (w (d := .instanceMethod tFill) (by simp [thA]))
  obtain ⟨mF', cF, qF', g1, g2, g3, g4, g5, -, g6⟩ := Cond.codeSync_spec nF (w (d := .codeSync tFill Fill.code 1 (some (.object tN))) (by simp [thA]))
  cases qF.symm.trans qF'
  obtain ⟨j0, m0', n0', q0', at0, s1, s2, s3, s4⟩ := Cond.ownMethod (x := tFill0) found hkT (w (d := .instanceMethod tFill0) (by simp [thA]))
  cases n0.symm.trans n0'
  cases q0.symm.trans q0'
  obtain ⟨iZ, mZ, nZ, qZ, atZ, -, -, -, -⟩ := Cond.ownMethod (x := tInit0) found hkT (w (d := .instanceMethod tInit0) (by simp [thA]))
  obtain ⟨mZ', cZ, qZ', z1, z2, z3, -, z4, -, -⟩ := Cond.code_spec nZ (w (d := .code tInit0 Init0.code 1 none) (by simp [thA]))
  cases qZ.symm.trans qZ'
  obtain ⟨mO, methO, nO, qO, o1, o2⟩ := Cond.instanceMethod_spec (w (d := .instanceMethod oInit) (by simp [thA]))
  obtain ⟨methO', cO, qO', o3, o4, o5, -, o6, -, o7⟩ := Cond.code_spec nO (w (d := .code oInit ⟨#[0xb1]⟩ 1 none) (by simp [thA]))
  cases qO.symm.trans qO'
  obtain ⟨kO, hkO, hnO⟩ := Vm.findClass_spec (findClass_of_methodNamed nO)
  obtain ⟨o8, o9⟩ := name_of_methodNamed nO qO
  obtain ⟨c1, p1, cf, l1, u1, hcf, v1⟩ := Cond.linkedMethod found hkT nO (w (d := .methodLink tN 1 oInit) (by simp [thA])) pl hpl
  obtain ⟨c27, p27, cf', l27, u27, hcf', v27⟩ := Cond.linkedMethod found hkT nF (w (d := .methodLink tN 27 tFill) (by simp [thA])) pl hpl
  cases hcf.symm.trans hcf'
  obtain ⟨c202, p202, cf', l202, u202, hcf'', v202⟩ := Cond.linkedMethod found hkT n0 (w (d := .methodLink tN 202 tFill0) (by simp [thA])) pl hpl
  cases hcf.symm.trans hcf''
  obtain ⟨c7, i7, x7, a71, a72, a73, a74, a75, a76, a77, a78⟩ := Cond.ownField (C' := C) (t := .object tN) found hkT (by decide +kernel) (w (d := .fieldLink tN 7 tN "cause" thD) (by simp [thA])) (w (by simp [thA])) pl hpl
  obtain ⟨c17, i17, x17, b1, b2, b3, b4, b5, b6, b7, b8⟩ := Cond.ownField (C' := C) (t := .array (.object "java/lang/StackTraceElement")) found hkT (by decide +kernel) (w (d := .fieldLink tN 17 tN "stackTrace" steD) (by simp [thA])) (w (by simp [thA])) pl hpl
  obtain ⟨c24, i24, x24, d1, d2, d3, d4, d5, d6, d7, d8⟩ := Cond.ownField (C' := C) (t := .object "java/util/List") found hkT (by decide +kernel) (w (d := .fieldLink tN 24 tN "suppressedExceptions" listD) (by simp [thA])) (w (by simp [thA])) pl hpl
  obtain ⟨c31, i31, x31, e1, e2, e3, e4, e5, e6, e7, e8⟩ := Cond.ownField (C' := C) (t := .object "java/lang/String") found hkT (by decide +kernel) (w (d := .fieldLink tN 31 tN "detailMessage" msgD) (by simp [thA])) (w (by simp [thA])) pl hpl
  obtain ⟨c13, i13, x13, aS, cellS, t1, t2, t3, t4, -, -, t5, t6, t7, -, -, t8⟩ := Cond.ownStatic (t := .array (.object "java/lang/StackTraceElement")) found hkT (by decide +kernel) (w (d := .fieldLink tN 13 tN "UNASSIGNED_STACK" steD) (by simp [thA])) (w (by simp [thA])) pl hpl
  obtain ⟨c20, i20, x20, _, _, y1, y2, y3, y4, -, -, -, -, -, -, -, y5⟩ := Cond.ownStatic (t := .object "java/util/List") found hkT (by decide +kernel) (w (d := .fieldLink tN 20 tN "SUPPRESSED_SENTINEL" listD) (by simp [thA])) (w (by simp [thA])) pl hpl
  have apart : x17.slot ≠ x24.slot := fun q => by
    obtain ⟨kC, hkC, -⟩ := Vm.findClass_spec hC
    obtain ⟨-, e17, he17, hn17⟩ := Cond.laysAt hC hkC b8 (w (d := .lays C tN "stackTrace" steD) (by simp [thA]))
    obtain ⟨-, e24, he24, hn24⟩ := Cond.laysAt hC hkC d8 (w (d := .lays C tN "suppressedExceptions" listD) (by simp [thA]))
    rw [q] at he17
    cases he17.symm.trans he24
    rw [hn17, b6, d6] at hn24
    exact absurd hn24 (by decide)
  refine ⟨⟨⟨cT, kT, cT, aS, iF, i0, iF, mO, kO, mF, m0, mF, methO, cF, cF, cO, x7, x7, x17, x7, x24, x31, x13, x20⟩, cf, c1, p1, c27, p27, c202, p202, c7, i7, c13, i13, c17, i17, c20, i20, c24, i24⟩, ⟨iZ, mZ, cZ⟩, ?_, ⟨atZ, z1, z2, z3, z4⟩,
    ⟨found, nF, n0, nZ, o5, hord, a78, b8, d8, t8, y5, ⟨i31, e8⟩, e7, a76, b6, d6, a77, b7, d7, cellS, t6, t7⟩⟩
  exact ⟨howns, hfin, hkT, hnm, Vm.findClass_boot found hkT, hni, Cond.initialized_spec found hkT (w (d := .initialized tN) (by simp [thA])), t5, atF, g1, g2, g3, g5, f1, f2, g4, sig_of g6 (by decide +kernel), at0, s3, s4, sig_of r4 (by decide +kernel), s1, r1, r2, r3, s2, b4, b5, t4,
    hkO, hnO, qO, o8, o1, o2, (by rw [o9]; exact lookupSpecial_of_named nO qO o1), (by rw [sig_of o7 (ps := []) (by decide +kernel)]; rfl), o3, o4, o6, a74, a75, y4, d4, d5, e4, e5, apart, hcf, l1, u1, v1, l27, u27, v27, l202, u202, v202, a71, a72, a73, t1, t2, t3, b1, b2, b3, y1, y2, y3, d1, d2, d3⟩
end Jvm.Own
namespace Jvm.Own
open Sem ClassFile Op Lib Bundle Jvm.Stand Jvm.Free Jvm.LawKit Jvm.RoadKit Jvm.Free.Exc LibCode.Throwable
section Thr
variable {G : Gx} {As As' : List Ent} {Li : List LitE} {a : Addr} {C : String} {fs fs' : List Fd} {vs vs' : List Value} {msg : Value} {Z s : State} {h h' : Heap}
/-- what is known of the fields behind a Throwable's constructor: the message, the cause, and what isn't Throwable's -/
def ExF (a : Addr) (msg : Value) (fs : List Fd) (vs : List Value) (fs' : List Fd) (vs' : List Value) : Prop :=
  vs'.length = fs'.length ∧ ∀ (i : Nat) (f : Fd) (v : Value), fs'[i]? = some f → vs'[i]? = some v →
    (f = (tN, "detailMessage", msgD) ∧ v = msg) ∨ (f = (tN, "cause", thD) ∧ v = .ref a) ∨ (FAt fs vs f.1 f.2.1 f.2.2 v ∧ ∀ nd ∈ sixNames, f.2.1 ≠ nd.1)
theorem takes_as {cell : Cell} {c : ClassId} {k : Class} {f : Field} {v : Value} (hc : cell.cls = c) (hv : cell.vm = .none) (hs : cell.slots.size = k.instanceTypes.size) (t : Takes s (freshCell c k) f v) : Takes s cell f v := by
  subst hc
  obtain ⟨t1, t2⟩ := t
  refine ⟨?_, ?_⟩
  · rw [hs]; simpa [freshCell] using t1
  · rw [hv]; exact t2
/-- the slot of a field, by the walk's tables and by the start's -/
theorem slot_as (hal : Z.vm.Alike s.vm) {O n d : String} {c i : Nat} {k : Class} {f : Field} (hf : s.fieldFound? O n d = some (c, k, i, f)) : RoadKit.slotOf Z O n d = f.slot ∧ ∃ k', Z.fieldFound? O n d = some (c, k', i, f) := by
  obtain ⟨c2, k2, i2, h2⟩ := Jvm.Free.BdW.found_ride (U := s) (U' := Z) hal.symm ⟨c, k, i, hf⟩
  refine ⟨by simp [RoadKit.slotOf, h2], ?_⟩
  obtain ⟨k', h3, -⟩ := State.fieldFound?_setVm (s := s) (vm' := Z.vm) hal.symm hf
  refine ⟨k', ?_⟩
  rw [← h3]
  rfl
/-- a static's cell, by the start's tables, is the one that the walk's tables name -/
theorem sta_as (hal : Z.vm.Alike s.vm) {O n d : String} {c i : Nat} {k : Class} {f : Field} {v : Value} {aS : Addr} (hf : s.fieldFound? O n d = some (c, k, i, f)) (hk : s.vm.classes[c]? = some k) (hs : k.statics = some aS) (S : Sta Z h O n d v) : ∃ cell : Cell, h[aS]? = some cell ∧ cell.vm.isStatics = true ∧ cell.slots[f.slot]? = some v := by
  obtain ⟨-, k', hZ⟩ := slot_as hal hf
  obtain ⟨cf, i2, k2, f2, st, cell, h1, h2, h3, h4, h5, h6, h7⟩ := S
  cases hZ.symm.trans h1
  obtain ⟨hk2, -⟩ := State.fieldFound?_spec h1
  obtain ⟨k3, h8, e⟩ := hal.2.2 _ _ hk2
  cases hk.symm.trans h8
  have : k.statics = k'.statics := by rw [e]
  rw [hs, h4] at this
  cases this
  exact ⟨cell, h5, h6, h7⟩
abbrev thR : Room := { frames := 3, cells := 1, slots := 2752, locals := 42 }
set_option maxHeartbeats 1000000 in
theorem thrBack {p : Program} {e : Env} {below : List Frame} {sargs : Array Value} {len Wt n : Nat} {R : Room} {vU vN : Value} (hexec : p.tables.exec = Jvm.exec) (hnw : G.nw = false) (hst : G.l.stackTraces = true) (hZ : G.Z.Warmed39 s.vm) (hT0 : ThS G.Z s.heap) (hTK : s.vm.MethodsKnown) (hBl : s.vm.FramesKnown below) (hLs : LI G.Z s.vm Li)
    (hA : ∀ d ∈ thA C, d.before G.a0 G.Z = true) (wi : (Cond.instantiable C n).before G.a0 G.Z = true) (hU : Sta G.Z G.Z.heap tN "UNASSIGNED_STACK" steD vU) (rU : vU.isRef = true) (nU : vU ≠ .null) (hN : Sta G.Z G.Z.heap tN "SUPPRESSED_SENTINEL" listD vN) (rN : vN.isRef = true)
    (u : Upd As a (obj C fs vs) (obj C fs' vs') As') (hB : FAt fs vs tN "backtrace" obD .null) (hM0 : ∃ v, FAt fs vs tN "detailMessage" msgD v) (hC0 : ∃ v, FAt fs vs tN "cause" thD v) (hx : ExF a msg fs vs fs' vs') (hL' : LaidAll G.Z G.a0 C fs') (hmsg : msg.isRef = true) (hRf : 2 < R.frames) (hRl : Wt + 42 ≤ R.locals) :
    BackS G.l R p e below s sargs (initS tN) len Wt (PreC G As Li R thR #[.ref a, msg]) (PostC G thR (fun v A L => v = none ∧ A = As' ∧ Li = L)) := by
  intro m meth c A g ig mk aa X hg hsize hdg hW hn hp
  obtain ⟨T', locs, cells, slots⟩ := A
  obtain ⟨rfl, hI, -, hc, hs⟩ := hp
  dsimp only [Pt.U, Pt.locs, Pt.cells, Pt.slots] at *
  have hm := u.mem
  have hal := hZ.alike
  have ha := (hI.2.2 _ hm).1 rfl
  have w : ∀ {d : Jvm.Cond}, d ∈ thA C → d.before sargs s = true := fun {d} hd => mvX hT0 hZ (List.all_eq_true.mp thA_ok d hd) (hA d hd)
  have howns : e.platform.frameOwnsMonitors = true := by rw [X.admits.platform]
  have hfin : e.platform.finalization = false := by rw [X.admits.platform]
  have hpl : e.platform.magicAccessors = ({} : Platform).magicAccessors := by rw [X.admits.platform]
  have htr : e.platform.stackTraces = true := by rw [X.admits.platform]; exact hst
  obtain ⟨cell, kZ, hcell, hfZ, hkZ, hns, hsz⟩ := hI.exa hm
  obtain ⟨cell', hcell', hvm, hmon⟩ := ((hI.2.2 _ hm).2.2.2.2 rfl).2
  cases hcell.symm.trans hcell'
  have hC : s.vm.findClass C = some cell.cls := by rw [hal.findClass]; exact hfZ
  obtain ⟨kX, hkX, ekX⟩ := hal.2.2 _ _ hkZ
  obtain ⟨cI, kI, hcI, hkI, hord, -⟩ := Cond.instantiable_spec (mvT (args := sargs) hZ wi)
  cases hC.symm.trans hcI
  cases hkX.symm.trans hkI
  have hsize' : cell.slots.size = kX.instanceTypes.size := by
    rw [hsz (by rw [ekX] at hord; exact hord), ekX]
  obtain ⟨T, Z0, L, -, Y⟩ := links_of howns hfin hpl hC fun d hd => w hd
  obtain ⟨Z1, M, LZ, LM, hnZ⟩ := Init0T.ofS_atoms (args := sargs) hpl L Y fun d hd => w (by simp only [throwableSAtoms, List.mem_cons, List.not_mem_nil, or_false] at hd; rcases hd with rfl | rfl | rfl | rfl <;> simp [thA])
  cases hn.symm.trans (X.named hnZ)
  -- the statics
  obtain ⟨cellS, hcS, hisS, hvU⟩ := sta_as hal Y.unassigned L.cls L.statics (hU.ext hI.old)
  obtain ⟨cellS', hcS', -, hvN⟩ := sta_as hal Y.sentinel L.cls L.statics (hN.ext hI.old)
  cases hcS.symm.trans hcS'
  have hneS : T.aS ≠ a := fun q => by rw [q] at hcS; cases hcS.symm.trans hcell; rw [hns] at hisS; cases hisS
  have hknS : cellS.vm ≠ .unknown := fun q => by rw [q] at hisS; cases hisS
  -- the slots
  obtain ⟨iM, hffM⟩ := Y.msg
  obtain ⟨c198, i198, fB, k1, k2, k3, k4, -, nB, tB, ffB⟩ := Cond.ownField (C' := C) (t := .object "java/lang/Object") Y.found L.cls (by decide +kernel) (w (d := .fieldLink tN 198 tN "backtrace" obD) (by simp [thA])) (w (by simp [thA])) e.platform hpl
  obtain ⟨tyC, dC, eC, nC⟩ := Cond.laysAt hC hkX Y.cause (w (d := .lays C tN "cause" thD) (by simp [thA]))
  obtain ⟨tyS, dS, eS, nS⟩ := Cond.laysAt hC hkX Y.stack (w (d := .lays C tN "stackTrace" steD) (by simp [thA]))
  obtain ⟨tyP, dP, eP, nP⟩ := Cond.laysAt hC hkX Y.supp (w (d := .lays C tN "suppressedExceptions" listD) (by simp [thA]))
  obtain ⟨tyM, dM, eM, nM⟩ := Cond.laysAt hC hkX hffM (w (d := .lays C tN "detailMessage" msgD) (by simp [thA]))
  obtain ⟨tyB, dB, eB, nB'⟩ := Cond.laysAt hC hkX ffB (w (d := .lays C tN "backtrace" obD) (by simp [thA]))
  obtain ⟨cO, kO, comp, fb, fd, hO, hkO, hkindO, hfb, hfd, htB, htD⟩ := traceWords hC hkX hord Y.found L.cls (w (d := .arrayOver (.object "java/lang/Object")) (by simp [thA])) (w (d := .soleField tN "backtrace") (by simp [thA])) (w (d := .soleField tN "depth") (by simp [thA])) (w (d := .lays C tN "backtrace" obD) (by simp [thA])) (w (d := .lays C tN "depth" "I") (by simp [thA]))
  have LD : ∀ nd ∈ sixNames, Laid G.Z G.a0 C tN nd.1 nd.2 ∧ ∃ t, parseFieldDescriptor nd.2 = some t := fun nd hnd => by
    simp only [sixNames, List.mem_cons, List.not_mem_nil, or_false] at hnd
    rcases hnd with rfl | rfl | rfl | rfl | rfl | rfl <;> exact ⟨Or.inl (hA _ (by simp [thA])), Option.isSome_iff_exists.mp (by decide +kernel)⟩
  have sC := (slot_as hal Y.cause).1
  have sS := (slot_as hal Y.stack).1
  have sP := (slot_as hal Y.supp).1
  have sM := (slot_as hal hffM).1
  have sB := (slot_as hal ffB).1
  obtain ⟨_, _, cD, kD, iD, fD, _, _, ffD, stD, -⟩ := Cond.lays_spec (w (d := .lays C tN "depth" "I") (by simp [thA]))
  cases Y.found.symm.trans (Cond.lays_declared (w (d := .lays C tN "depth" "I") (by simp [thA])) ffD)
  cases L.cls.symm.trans (State.fieldFound?_spec ffD).1
  have eB' := Cond.soleField_find Y.found L.cls (w (d := .soleField tN "backtrace") (by simp [thA])) k3 nB k4
  have eD' := Cond.soleField_find Y.found L.cls (w (d := .soleField tN "depth") (by simp [thA])) (State.fieldFound?_spec ffD).2 (State.fieldFound?_type ffD (t := .int) (by decide +kernel)).1 stD
  obtain rfl : fB = fb := (Option.some.inj (hfb.symm.trans eB')).symm
  obtain rfl : fD = fd := (Option.some.inj (hfd.symm.trans eD')).symm
  have sD := (slot_as hal ffD).1
  have six : ∀ {x y : String × String}, x ∈ sixNames → y ∈ sixNames → x.1 ≠ y.1 → RoadKit.slotOf G.Z tN x.1 x.2 ≠ RoadKit.slotOf G.Z tN y.1 y.2 := fun {x y} h1 h2 hne => by
    obtain ⟨l1, t1, p1⟩ := LD x h1
    obtain ⟨l2, t2, p2⟩ := LD y h2
    exact slot_ne l1 l2 hne p1 p2
  have m1 : (("cause", thD) : String × String) ∈ sixNames := by simp [sixNames]
  have m2 : (("stackTrace", steD) : String × String) ∈ sixNames := by simp [sixNames]
  have m3 : (("suppressedExceptions", listD) : String × String) ∈ sixNames := by simp [sixNames]
  have m4 : (("backtrace", obD) : String × String) ∈ sixNames := by simp [sixNames]
  have m5 : (("depth", "I") : String × String) ∈ sixNames := by simp [sixNames]
  have m6 : (("detailMessage", msgD) : String × String) ∈ sixNames := by simp [sixNames]
  have bC : T.fCause.slot ≠ fB.slot := by rw [← sC, ← sB]; exact six m1 m4 (by decide)
  have bS : T.fStack.slot ≠ fB.slot := by rw [← sS, ← sB]; exact six m2 m4 (by decide)
  have bP : T.fSupp.slot ≠ fB.slot := by rw [← sP, ← sB]; exact six m3 m4 (by decide)
  have hnull : cell.slots[fB.slot]? = some .null := by
    obtain ⟨cell2, cf, k, i, f, q1, q2, q3, q4, q5, q6, q7⟩ := hI.fld hm hB
    obtain ⟨k', z2⟩ := (slot_as hal ffB).2
    cases hcell.symm.trans q1
    cases z2.symm.trans q2
    exact q7
  have hsel0 : selectMethod e.platform s.vm cell.cls T.fill0 = .method T.fill0 := by
    obtain ⟨c2, r2, n2, q1, q2, q3, q4, -⟩ := Cond.selects_spec (w (d := .selects C tFill0 tFill0) (by simp [thA]))
    cases hC.symm.trans q1
    cases (State.methodFound?_of_named Y.fill0 (by decide)).symm.trans q2
    cases Y.fill0.symm.trans q3
    rw [Launch.admits_selectMethod X.admits]; exact q4
  have hselF : selectMethod e.platform s.vm cell.cls T.fill = .method T.fill := by
    obtain ⟨c2, r2, n2, q1, q2, q3, q4, -⟩ := Cond.selects_spec (w (d := .selects C tFill tFill) (by simp [thA]))
    cases hC.symm.trans q1
    cases (State.methodFound?_of_named Y.fill (by decide)).symm.trans q2
    cases Y.fill.symm.trans q3
    rw [Launch.admits_selectMethod X.admits]; exact q4
  obtain ⟨vm', lines, hlines, X2, stp⟩ := X.ctorMessageOn hexec (g := g) hg hsize T L Z1 LZ M LM [] (fun P hP => nomatch hP) trivial (u0 := ⟨vU, rU⟩) (sen := ⟨vN, rN⟩) (self := a) hmsg hcell (fun k => by rw [hvm]; simp) (by rw [hvm]; simp) (by rw [hmon]) (by rw [hmon]) hsel0 hselF hcS hneS hknS hvU hvN
    (takes_as rfl hvm hsize' (Takes.of_laid hkX hord tyC (by rw [Y.causeType]; rfl))) (takes_as rfl hvm hsize' (Takes.of_laid hkX hord tyS (by rw [Y.stackType]; exact fits_refV_array _ ⟨vU, rU⟩))) (takes_as rfl hvm hsize' (Takes.of_laid hkX hord tyP (by rw [Y.suppType]; exact fits_refV_object _ ⟨vN, rN⟩))) (takes_as rfl hvm hsize' (Takes.of_laid hkX hord tyM (by rw [Y.msgType]; exact fits_refV_object _ ⟨msg, hmsg⟩)))
    Y.objLocals htr nU ⟨⟨c198, i198, fB⟩, ⟨k1, k2, k3, k4⟩, by
      show (((cell.slots.setIfInBounds _ _).setIfInBounds _ _).setIfInBounds _ _)[fB.slot]? = _
      rw [Array.getElem?_setIfInBounds_ne bP, Array.getElem?_setIfInBounds_ne bS, Array.getElem?_setIfInBounds_ne bC]; exact hnull⟩
    hTK hBl Y.found hO hkO hkindO hfb hfd (fun x => takes_as rfl hvm hsize' (htB x)) (fun x => takes_as rfl hvm hsize' (htD x)) [] hdg (by simpa using hRf) (by simp only [List.length_nil]; omega) hc hs
  have hhold : (traceHolder cO lines).slots.size ≤ 2752 := traceHolder_size_le cO hlines
  have hlt : a < T'.heap.size := (Array.getElem?_eq_some_iff.mp hcell).1
  obtain ⟨cN, hcN⟩ : ∃ cN, cN = plainOn T.toThrowableT fB fD cell a ⟨vU, rU⟩ ⟨vN, rN⟩ T'.heap.size lines.length.toInt32 msg := ⟨_, rfl⟩
  rw [← hcN] at X2 stp
  obtain ⟨U, hU'⟩ : ∃ U, U = ((T'.setVm vm').pushCell (traceHolder cO lines)).setCell a cN := ⟨_, rfl⟩
  have hheap : U.heap = (T'.heap.push (traceHolder cO lines)).setIfInBounds a cN := by rw [hU']; rfl
  rw [← hU'] at X2 stp
  have hcNs : cN.slots = ((((((cell.slots.setIfInBounds T.fCause.slot (.ref a)).setIfInBounds T.fStack.slot vU).setIfInBounds T.fSupp.slot vN).setIfInBounds fB.slot (.ref T'.heap.size)).setIfInBounds fD.slot (.int lines.length.toInt32)).setIfInBounds T.fStack.slot vU).setIfInBounds T.fMsg.slot msg := by rw [hcN]; simp only [plainOn, preparedCellV, Cell.setSlot]
  have hcNe : cN = { cell with slots := cN.slots } := by rw [hcN]; simp only [plainOn, preparedCellV, Cell.setSlot]
  have hcNz : cN.slots.size = cell.slots.size := by rw [hcNs]; simp
  have hatA : U.heap[a]? = some cN := by rw [hheap]; simp [Nat.lt_succ_of_lt hlt]
  have Kq : Kp G.Z T'.heap U.heap a := by
    refine ⟨by rw [hheap]; simp, fun y cy hy => ?_⟩
    by_cases hya : y = a
    · subst hya
      cases hcell.symm.trans hy
      refine ⟨cN, hatA, hcNe, hcNz, fun q => absurd rfl q, fun i hi => ?_⟩
      have i1 : T.fCause.slot ≠ i := by rw [← sC]; exact hi _ m1
      have i2 : T.fStack.slot ≠ i := by rw [← sS]; exact hi _ m2
      have i3 : T.fSupp.slot ≠ i := by rw [← sP]; exact hi _ m3
      have i4 : fB.slot ≠ i := by rw [← sB]; exact hi _ m4
      have i5 : fD.slot ≠ i := by rw [← sD]; exact hi _ m5
      have i6 : T.fMsg.slot ≠ i := by rw [← sM]; exact hi _ m6
      rw [hcNs, Array.getElem?_setIfInBounds_ne i6, Array.getElem?_setIfInBounds_ne i2, Array.getElem?_setIfInBounds_ne i5, Array.getElem?_setIfInBounds_ne i4, Array.getElem?_setIfInBounds_ne i3, Array.getElem?_setIfInBounds_ne i2, Array.getElem?_setIfInBounds_ne i1]
    · refine ⟨cy, ?_, rfl, rfl, fun _ => rfl, fun _ _ => rfl⟩
      have hly := (Array.getElem?_eq_some_iff.mp hy).1
      rw [hheap, Array.getElem?_setIfInBounds_ne (Ne.symm hya), Array.getElem?_push_lt hly]
      exact (Array.getElem?_eq_some_iff.mp hy).2 ▸ rfl
  have newF : ∀ {O n d : String} {w0 v : Value}, Fld G.Z T'.heap a O n d w0 → cN.slots[RoadKit.slotOf G.Z O n d]? = some v → Fld G.Z U.heap a O n d v := fun {O n d w0 v} F hv => by
    obtain ⟨cell2, cf, k, i, f, q1, q2, q3, q4, q5, q6, q7⟩ := F
    cases hcell.symm.trans q1
    refine ⟨cN, cf, k, i, f, hatA, q2, q3, by rw [hcNe]; exact q4, by rw [hcNe]; exact q5, by rw [hcNe]; exact q6, ?_⟩
    rw [← hv]; simp [RoadKit.slotOf, q2]
  have D : Des G.Z G.a0 U.heap a true (obj C fs' vs') := by
    refine ⟨(hI.exa hm).kp Kq, hx.1, fun i f v hf hv => ?_, fun _ => ⟨hL', ((hI.2.2 _ hm).2.2.2.2 rfl).2.kp Kq⟩⟩
    rcases hx.2 i f v hf hv with ⟨rfl, rfl⟩ | ⟨rfl, rfl⟩ | ⟨q, hq⟩
    · obtain ⟨w0, hw0⟩ := hM0
      refine newF (hI.fld hm hw0) ?_
      have hl : T.fMsg.slot < cell.slots.size := by rw [hsize']; exact (Array.getElem?_eq_some_iff.mp tyM).1
      rw [sM, hcNs]; simp [hl]
    · obtain ⟨w0, hw0⟩ := hC0
      refine newF (hI.fld hm hw0) ?_
      have hl : T.fCause.slot < cell.slots.size := by rw [hsize']; exact (Array.getElem?_eq_some_iff.mp tyC).1
      have j2 : T.fStack.slot ≠ T.fCause.slot := by rw [← sC, ← sS]; exact six m2 m1 (by decide)
      have j3 : T.fSupp.slot ≠ T.fCause.slot := by rw [← sC, ← sP]; exact six m3 m1 (by decide)
      have j5 : fD.slot ≠ T.fCause.slot := by rw [← sC, ← sD]; exact six m5 m1 (by decide)
      have j6 : T.fMsg.slot ≠ T.fCause.slot := by rw [← sC, ← sM]; exact six m6 m1 (by decide)
      rw [sC, hcNs, Array.getElem?_setIfInBounds_ne j6, Array.getElem?_setIfInBounds_ne j2, Array.getElem?_setIfInBounds_ne j5, Array.getElem?_setIfInBounds_ne bC.symm, Array.getElem?_setIfInBounds_ne j3, Array.getElem?_setIfInBounds_ne j2]
      simp [hl]
    · refine Fld.kp Kq (hI.fld hm q) (Or.inr fun nd hnd => ?_)
      obtain ⟨l1, t1, p1⟩ := hL'.2 f (List.mem_of_getElem? hf)
      obtain ⟨l2, t2, p2⟩ := LD nd hnd
      exact (slot_ne l1 l2 (hq nd hnd) p1 p2).symm
  have X3 := X2.more (Nat.le_refl _) (Nat.add_le_add_left hhold slots)
  have hvm' : U.vm = vm' := by rw [hU']; rfl
  refine ⟨none, ⟨U, _, cells + 1, slots + 2752⟩, X3.retabled X3.warmed.wide, X3.warmed.since _, by show T'.heap.size ≤ U.heap.size; rw [hheap]; simp, ⟨_, As', Li, ⟨rfl, rfl, rfl⟩, ?_, hLs.warm (s := s) (by exact X3.warmed), ?_, (fun q => by rw [hnw] at q; cases q), rfl, rfl, rfl⟩, stp _ (Steps.refl _)⟩
  · exact hI.upd u (fun b hb c q => by
      obtain ⟨c', q1, -, -, q4, -⟩ := Kq.2 b c q
      rw [q1, q4 hb]) Kq.1 D
  · intro y hy
    simp only [List.mem_cons, List.not_mem_nil, or_false] at hy
    rcases hy with rfl | rfl | rfl | rfl | rfl | rfl | rfl <;> exact ha
end Thr
section Laws
variable {G : Gx} {K : Kx} {y : MethodName} {code : ByteArray} {ret : Option FieldType} {R : Room} {Q : Qx} {As As' : List Ent} {Li Li' : List LitE} {cells slots pc pc' : Nat} {Ls Ls' : List Slot} {st st' : List Value} {idx n : Nat} {a b : Addr} {vs vs' : List Value} {fs fs' : List Fd} {C : String} {msg vU vN : Value}
/-- Throwable's constructor of a message, on an object of the class C that the walk has made -/
theorem W.thr (hnw : G.nw = false) (hst : G.l.stackTraces = true) (hMK : G.Z.vm.MethodsKnown) (hFK : G.Z.vm.FramesKnown G.Z.frames) (hU : Sta G.Z G.Z.heap tN "UNASSIGNED_STACK" steD vU) (rU : vU.isRef = true) (nU : vU ≠ .null) (hN : Sta G.Z G.Z.heap tN "SUPPRESSED_SENTINEL" listD vN) (rN : vN.isRef = true)
    (hA : ∀ d ∈ thA C, d.before G.a0 G.Z = true) (wi : (Cond.instantiable C n).before G.a0 G.Z = true) (hd : decode code pc = .ok (.invokespecial idx, 3)) (wl : (Cond.methodLink y.cls idx (initS tN)).before G.a0 G.Z = true)
    (u : Upd As a (obj C fs vs) (obj C fs' vs') As') (hB : FAt fs vs tN "backtrace" obD .null) (hM0 : ∃ v, FAt fs vs tN "detailMessage" msgD v) (hC0 : ∃ v, FAt fs vs tN "cause" thD v) (hx : ExF a msg fs vs fs' vs') (hL' : LaidAll G.Z G.a0 C fs') (hmsg : msg.isRef = true)
    (hf : 3 ≤ R.frames) (hlo : wt st + 42 ≤ R.locals) (hc : cells + 1 ≤ R.cells) (hs : slots + 2752 ≤ R.slots)
    (nx : W G K y code ret R Q As' Li (cells + 1) (slots + 2752) (pc + 3) Ls st) : W G K y code ret R Q As Li cells slots pc Ls (msg :: .ref a :: st) := by
  intro T vm0 k0 locs ok X hS hk hN' hI hL hF
  have hZ := ok_Z ok hS
  have hal := hZ.alike
  have hTK : (K.s.setVm vm0).vm.MethodsKnown := fun m x q => knowsMethod_alike hal (hMK m x (by rw [← hal.method?]; exact q))
  have hBl : (K.s.setVm vm0).vm.FramesKnown K.below := fun q hq m' hm' => knowsMethod_alike hal (ok_fk ok hMK hFK q hq m' hm')
  have hT0 : ThS G.Z (K.s.setVm vm0).heap := ThS.start.ext (ok_ext ok)
  obtain ⟨v, vm₁, B, hW1, X', hS', hg, hP, stp⟩ := X.specialBackS ok.1 (y := initS tN) rfl (ok_own ok hS) (mvT hZ wl) (mvT hZ (hA (.instanceMethod (initS tN)) (by simp [thA]))) (mvT hZ (hA (.code (initS tN) InitS.code 2 none) (by simp [thA]))) (by decide)
    (thrBack (len := 3) (Wt := wt st) ok.1 hnw hst hZ hT0 hTK hBl hL hA wi hU rU nU hN rN u hB hM0 hC0 hx hL' hmsg hf hlo) (g := mkF K.m pc Ls.toArray (msg :: .ref a :: st)) rfl (by rw [ok.2.2.1]; simp) (Steps.refl _) (a := a) (argsL := [msg]) (rest := st) (fun sig h => by
      have e : parseMethodDescriptor (initS tN).desc = some ⟨[.object "java/lang/String"], none⟩ := by decide +kernel
      cases e.symm.trans h; rfl) rfl (wt_le st) (hb ok.2.1 hd) (fun vm₁ hw => ⟨rfl, hI, hL.warm hw, hc, hs⟩)
  refine W.after (R' := thR) ok hS hk hN' hF hW1 X' hS' hg hP stp fun v A L q => ?_
  obtain ⟨rfl, rfl, rfl⟩ := q
  exact nx
end Laws
end Jvm.Own
namespace Jvm.Own
open Sem ClassFile Op Lib Bundle Jvm.Stand Jvm.Free Jvm.LawKit Jvm.RoadKit Jvm.Free.Exc
/-! ### Throwable.getCause of an object that the walk has made -/
section GC
variable {G : Gx} {As As' : List Ent} {Li : List LitE} {a : Addr} {C : String} {fs : List Fd} {vs : List Value} {s : State}
abbrev gcR : Room := { frames := 0, cells := 0, slots := 0, locals := 0 }
theorem gcBackC {p : Program} {e : Env} {below : List Frame} {sargs : Array Value} {len Wt : Nat} {R : Room} (hnw : G.nw = false) (hZ : G.Z.Warmed39 s.vm) (hLs : LI G.Z s.vm Li) (wc : (Cond.codeSync RoadKit.gcN gcB 1 (some (.object tN))).before G.a0 G.Z = true) (wi : (Cond.instanceMethod RoadKit.gcN).before G.a0 G.Z = true) (wz : (Cond.initialized tN).before G.a0 G.Z = true) (wf : (Cond.fieldLink tN 7 tN "cause" thD).before G.a0 G.Z = true)
    (hm : (a, true, obj C fs vs) ∈ As) (hc : FAt fs vs tN "cause" thD (.ref a)) (hf : 1 ≤ R.frames) (hl : Wt + 12 ≤ R.locals) :
    BackS G.l R p e below s sargs RoadKit.gcN len Wt (PreC G As Li R gcR #[.ref a]) (PostC G gcR (fun v A L => v = some .null ∧ A = As ∧ L = Li)) := by
  intro m meth c A g ig mk x X hg hsize hdg hW hn hp
  obtain ⟨rfl, hI, hL, hcc, hss⟩ := hp
  have N : Unt A.U.heap a := ((hI.2.2 _ hm).2.2.2.2 rfl).2
  have F : Fld G.Z A.U.heap a tN "cause" thD (.ref a) := hI.fld hm hc
  obtain ⟨v, B, X', ⟨h1, h2, h3, h4, h5⟩, st⟩ := gcBackPure (rm := gcR) hZ wc wi wz wf N F rfl hf hl m meth c A g ig mk _ X hg hsize hdg hW hn ⟨rfl, rfl, hcc, hss⟩
  have e1 : v = some .null := by rw [h1]; simp [gcV]
  subst e1
  refine ⟨some .null, B, X'.retabled X'.warmed.wide, X'.warmed.since _, by rw [h2]; exact Nat.le_refl _, ⟨[], As, Li, ⟨rfl, rfl, rfl⟩, by rw [h2]; exact hI, hLs.warm (s := s) (by exact X'.warmed), Fr.nil _, (fun q => by rw [hnw] at q; cases q), by rw [h3]; simp, h4, h5⟩, st⟩
end GC
section Laws
variable {G : Gx} {K : Kx} {y : MethodName} {code : ByteArray} {ret : Option FieldType} {R : Room} {Q : Qx} {As As' : List Ent} {Li Li' : List LitE} {cells slots pc pc' : Nat} {Ls Ls' : List Slot} {st st' : List Value} {idx n : Nat} {a b : Addr} {vs vs' : List Value} {fs fs' : List Fd} {C : String}
theorem W.gcause {x : MethodName} (hnw : G.nw = false) (hd : decode code pc = .ok (.invokevirtual idx, 3)) (hm : (a, true, obj C fs vs) ∈ As) (hcf : FAt fs vs tN "cause" thD (.ref a)) (wl : (Cond.methodLink y.cls idx x).before G.a0 G.Z = true) (wsm : (Cond.sameMethod x.cls tN x.name x.desc).before G.a0 G.Z = true) (wd : (Cond.declares ⟨tN, x.name, x.desc⟩).before G.a0 G.Z = true) (wsel : (Cond.selects C x RoadKit.gcN).before G.a0 G.Z = true)
    (wi : (Cond.instanceMethod RoadKit.gcN).before G.a0 G.Z = true) (wc : (Cond.codeSync RoadKit.gcN gcB 1 (some (.object tN))).before G.a0 G.Z = true) (wz : (Cond.initialized tN).before G.a0 G.Z = true) (wf : (Cond.fieldLink tN 7 tN "cause" thD).before G.a0 G.Z = true) (hp : parseMethodDescriptor x.desc = some ⟨[], some (.object tN)⟩)
    (hf : 1 ≤ R.frames) (hl : wt st + 12 ≤ R.locals) (hc : cells ≤ R.cells) (hs : slots ≤ R.slots)
    (nx : W G K y code ret R Q As Li cells slots (pc + 3) Ls (.null :: st)) : W G K y code ret R Q As Li cells slots pc Ls (.ref a :: st) := by
  intro T vm0 k0 locs ok X hS hk hN hI hL hF
  have hZ := ok_Z ok hS
  obtain ⟨cB, kB, q1, q2, q3⟩ := isOf (T := T) hZ rfl (hI.exa hm)
  obtain ⟨v, vm₁, B, hW1, X', hS', hg, hP, stp⟩ := X.virtualBackUpS ok.1 (ok_own ok hS) (mvT hZ wl) (mvT hZ wsm) (mvT hZ wd) (by decide) (mvT hZ wsel) (mvT hZ wi) (gcBackC (len := 3) (Wt := wt st) hnw hZ hL wc wi wz wf hm hcf hf hl) q1 q3 (g := mkF K.m pc Ls.toArray (.ref a :: st)) rfl (by rw [ok.2.2.1]; simp) (Steps.refl _) (argsL := []) (rest := st) (fun sig h => by cases hp.symm.trans h; rfl) rfl (wt_le st) (hb ok.2.1 hd) (fun vm₁ hw => ⟨rfl, hI, hL.warm hw, hc, hs⟩)
  refine W.after (R' := gcR) ok hS hk hN hF hW1 X' hS' hg hP stp fun v A L q => ?_
  obtain ⟨rfl, rfl, rfl⟩ := q
  exact nx
end Laws
/-! ### Strings of either coder -/
def StrK (As : List Ent) (a : Addr) (bs : List Value) (cod : Int32) : Prop :=
  ∃ b fs vs, (a, false, obj STR fs vs) ∈ As ∧ FAt fs vs STR "value" "[B" (.ref b) ∧ FAt fs vs STR "coder" "B" (.int cod) ∧ (b, false, arr .byte bs) ∈ As
section StrK
variable {G : Gx} {As As' : List Ent} {a : Addr} {vs : List Value} {cod : Int32}
theorem StrF.k (q : StrF As a vs) : StrK As a vs 0 := q
theorem StrK.str (q : StrK As a vs cod) : StrIn G As a vs cod := by
  obtain ⟨b, fs, us, h1, h2, h3, h4⟩ := q; exact ⟨b, Is.mem h1, FIn.mem h1 h2, FIn.mem h1 h3, AVin.mem h4⟩
theorem StrK.is (q : StrK As a vs cod) : Is G As a STR := by obtain ⟨b, fs, us, h1, h2, h3, h4⟩ := q; exact Is.mem h1
theorem StrK.sub (q : StrK As a vs cod) (s : Sub As As') : StrK As' a vs cod := by
  obtain ⟨b, fs, us, h1, h2, h3, h4⟩ := q; exact ⟨b, fs, us, s _ h1, h2, h3, s _ h4⟩
theorem StrK.stay (q : StrK As a vs cod) (s : Stay As As') : StrK As' a vs cod := by
  obtain ⟨b, fs, us, h1, h2, h3, h4⟩ := q; exact ⟨b, fs, us, s _ h1 rfl, h2, h3, s _ h4 rfl⟩
end StrK
/-! ### UTF-16 -/
def lo (z : Int32) : Int32 := z.toInt8.toInt32
def hi (z : Int32) : Int32 := (z >>> ((8 : Int32) &&& 31)).toInt8.toInt32
def u16 (cs : List Int32) : List Int32 := cs.flatMap fun z => [lo z, hi z]
theorem u16_len (cs : List Int32) : (u16 cs).length = 2 * cs.length := by
  induction cs with
  | nil => rfl
  | cons z cs ih => simp only [u16, List.flatMap_cons, List.length_append, List.length_cons, List.length_nil] at *; omega
theorem u16_app (cs ds : List Int32) : u16 (cs ++ ds) = u16 cs ++ u16 ds := by simp [u16]
theorem u16_take {cs : List Int32} {k : Nat} (h : k < cs.length) : u16 (cs.take k) ++ [lo cs[k]] ++ [hi cs[k]] = u16 (cs.take (k + 1)) := by
  rw [List.take_succ_eq_append_getElem h, u16_app, List.append_assoc]; rfl
theorem u16_split {cs : List Int32} {k : Nat} (h : k < cs.length) : u16 cs = u16 (cs.take k) ++ (lo cs[k] :: hi cs[k] :: u16 (cs.drop (k + 1))) := by
  conv => lhs; rw [← List.take_append_drop (k + 1) cs, u16_app, ← u16_take h]
  simp
theorem u16_at0 {cs : List Int32} {k : Nat} (h : k < cs.length) : (u16 cs)[2 * k]? = some (lo cs[k]) := by
  have hl : (u16 (cs.take k)).length = 2 * k := by rw [u16_len, List.length_take]; omega
  rw [u16_split h, List.getElem?_append_right (by omega), hl, Nat.sub_self]; rfl
theorem u16_at1 {cs : List Int32} {k : Nat} (h : k < cs.length) : (u16 cs)[2 * k + 1]? = some (hi cs[k]) := by
  have hl : (u16 (cs.take k)).length = 2 * k := by rw [u16_len, List.length_take]; omega
  rw [u16_split h, List.getElem?_append_right (by omega), hl, show 2 * k + 1 - 2 * k = 1 by omega]; rfl
theorem pad_full {xs : List Int32} {cap : Nat} (h : xs.length = cap) : pad xs cap = xs.map Value.int := by simp [pad, h]
theorem n_dbl {n : Nat} (h : n ≤ 4000) : n.toInt32 <<< ((1 : Int32) &&& 31) = (2 * n).toInt32 := by
  have q := c_ishl n.toInt32 1 1 (by decide)
  refine Int32.toInt_inj.mp ?_
  have r := rng32 (n.toInt32 <<< ((1 : Int32) &&& 31))
  rw [n_toInt (by omega)] at q ⊢
  omega
theorem n_half {n : Nat} (h : n ≤ 4000) : (2 * n).toInt32 >>> ((1 : Int32) &&& 31) = n.toInt32 := by
  have q := c_ishr (2 * n).toInt32 1 1 (by decide)
  refine Int32.toInt_inj.mp ?_
  rw [q, n_toInt (by omega), n_toInt (by omega)]
  omega
theorem cod1 {n : Nat} (h0 : 0 < n) (h : n ≤ 4000) : ((n.toInt32 - (2 * n).toInt32).toUInt32 >>> ((31 : Int32) &&& 31).toUInt32).toInt32 = 1 := by
  have q := c_iushr (n.toInt32 - (2 * n).toInt32) 31 31 (by decide) (by decide)
  have r := c_isub n.toInt32 (2 * n).toInt32
  have r' := rng32 (n.toInt32 - (2 * n).toInt32)
  rw [n_toInt (by omega), n_toInt (by omega)] at r
  refine Int32.toInt_inj.mp ?_
  rw [q]
  have h1 : (1 : Int32).toInt = 1 := rfl
  omega
theorem i2c_mask16 (x : Int32) : (x &&& 65535).toUInt32.toUInt16.toUInt32.toInt32 = x &&& 65535 := by
  have q := c_i2c (x &&& 65535)
  have r := c_mask x 65535 16 (by decide) (by decide)
  exact Int32.toInt_inj.mp (by omega)
theorem mask16 (x : Int32) : (x &&& 65535) &&& 65535 = x &&& 65535 := by
  have q := c_mask x 65535 16 (by decide) (by decide)
  have r := c_mask (x &&& 65535) 65535 16 (by decide) (by decide)
  exact Int32.toInt_inj.mp (by omega)
theorem nar16 {x : Int32} (h : x &&& 65535 = x) : nar .char x = x := by rw [← h]; exact i2c_mask16 x
theorem gc_big {z : Int32} (h : (255 : Int32) < z) (h2 : z &&& 65535 = z) : (255 : Int32) < ((lo z &&& 255) ||| ((hi z &&& 255) <<< ((8 : Int32) &&& 31))).toUInt32.toUInt16.toUInt32.toInt32 := by
  have a1 := c_mask (lo z) 255 8 (by decide) (by decide)
  have b1 := c_mask (hi z) 255 8 (by decide) (by decide)
  have b2 := c_ishl (hi z &&& 255) 8 8 (by decide)
  have b3 := rng32 ((hi z &&& 255) <<< ((8 : Int32) &&& 31))
  have k1 := c_i2b (z >>> ((8 : Int32) &&& 31))
  have k2 := c_ishr z 8 8 (by decide)
  have k3 := c_mask z 65535 16 (by decide) (by decide)
  rw [h2] at k3
  have h' := Int32.lt_iff_toInt_lt.mp h
  have e0 : (255 : Int32).toInt = 255 := rfl
  have hb : (hi z).toInt = ((z >>> ((8 : Int32) &&& 31)).toInt8.toInt32).toInt := rfl
  have o1 := c_or' (lo z &&& 255) ((hi z &&& 255) <<< ((8 : Int32) &&& 31)) 8 (by decide) 256 (by decide) (by omega) (by omega) (by omega)
  have o2 := c_i2c ((lo z &&& 255) ||| ((hi z &&& 255) <<< ((8 : Int32) &&& 31)))
  have o3 := rng32 ((lo z &&& 255) ||| ((hi z &&& 255) <<< ((8 : Int32) &&& 31)))
  rw [Int32.lt_iff_toInt_lt]
  omega
/-- the first sign above 255 -/
theorem first_big : ∀ cs : List Int32, ¬ (∀ z ∈ cs, ¬ (255 : Int32) < z) → ∃ (i : Nat) (h : i < cs.length), (255 : Int32) < cs[i] ∧ ∀ z ∈ cs.take i, ¬ (255 : Int32) < z := by
  intro cs
  induction cs with
  | nil => intro h; exact absurd (fun z hz => nomatch hz) h
  | cons z cs ih =>
    intro h
    by_cases hz : (255 : Int32) < z
    · exact ⟨0, by simp, hz, fun y hy => by simp at hy⟩
    · obtain ⟨i, hi, h1, h2⟩ := ih (fun q => h fun y hy => by rcases List.mem_cons.mp hy with rfl | hy; exact hz; exact q y hy)
      exact ⟨i + 1, by simpa using hi, by simpa using h1, fun y hy => by
        rw [List.take_succ_cons] at hy
        rcases List.mem_cons.mp hy with rfl | hy
        · exact hz
        · exact h2 y hy⟩
end Jvm.Own
namespace Jvm.Pilot.@@N@@
open Jvm Jvm.ClassFile Sem Op Lib Jvm.Free Jvm.Stand Jvm.LawKit Jvm.RoadKit Bundle Jvm.Pilot.@@N@@.Jvm.D
def F_java_lang_String : List Own.Fd := [("java/lang/String", "value", "[B"), ("java/lang/String", "coder", "B")]
theorem LF_java_lang_String (G : Own.Gx) (hw : ∀ d ∈ tables_1, d.before G.a0 G.Z = true) : Own.LaidAll G.Z G.a0 "java/lang/String" F_java_lang_String := ⟨by decide, Own.LaidAll.cons (Or.inr (hw _ (List.mem_of_getElem? (i := 21) rfl))) (t := (.array .byte)) (by decide) (Own.LaidAll.cons (Or.inr (hw _ (List.mem_of_getElem? (i := 22) rfl))) (t := .byte) (by decide) (Own.LaidAll.nil))⟩
def F_java_lang_IllegalArgumentException : List Own.Fd := [("java/lang/Throwable", "cause", "Ljava/lang/Throwable;"), ("java/lang/Throwable", "stackTrace", "[Ljava/lang/StackTraceElement;"), ("java/lang/Throwable", "suppressedExceptions", "Ljava/util/List;"), ("java/lang/Throwable", "detailMessage", "Ljava/lang/String;"), ("java/lang/Throwable", "backtrace", "Ljava/lang/Object;"), ("java/lang/Throwable", "depth", "I")]
theorem LF_java_lang_IllegalArgumentException (G : Own.Gx) (hw : ∀ d ∈ tables_1, d.before G.a0 G.Z = true) : Own.LaidAll G.Z G.a0 "java/lang/IllegalArgumentException" F_java_lang_IllegalArgumentException := ⟨by decide, Own.LaidAll.cons (Or.inl (hw _ (List.mem_of_getElem? (i := 173) rfl))) (t := (.object "java/lang/Throwable")) (by decide) (Own.LaidAll.cons (Or.inl (hw _ (List.mem_of_getElem? (i := 176) rfl))) (t := (.array (.object "java/lang/StackTraceElement"))) (by decide) (Own.LaidAll.cons (Or.inl (hw _ (List.mem_of_getElem? (i := 179) rfl))) (t := (.object "java/util/List")) (by decide) (Own.LaidAll.cons (Or.inl (hw _ (List.mem_of_getElem? (i := 203) rfl))) (t := (.object "java/lang/String")) (by decide) (Own.LaidAll.cons (Or.inl (hw _ (List.mem_of_getElem? (i := 204) rfl))) (t := (.object "java/lang/Object")) (by decide) (Own.LaidAll.cons (Or.inl (hw _ (List.mem_of_getElem? (i := 205) rfl))) (t := .int) (by decide) (Own.LaidAll.nil))))))⟩
def F_java_lang_StringBuilder : List Own.Fd := [("java/lang/AbstractStringBuilder", "value", "[B"), ("java/lang/AbstractStringBuilder", "coder", "B"), ("java/lang/AbstractStringBuilder", "count", "I"), ("java/lang/AbstractStringBuilder", "maybeLatin1", "Z")]
theorem LF_java_lang_StringBuilder (G : Own.Gx) (hw : ∀ d ∈ tables_1, d.before G.a0 G.Z = true) : Own.LaidAll G.Z G.a0 "java/lang/StringBuilder" F_java_lang_StringBuilder := ⟨by decide, Own.LaidAll.cons (Or.inl (hw _ (List.mem_of_getElem? (i := 53) rfl))) (t := (.array .byte)) (by decide) (Own.LaidAll.cons (Or.inl (hw _ (List.mem_of_getElem? (i := 55) rfl))) (t := .byte) (by decide) (Own.LaidAll.cons (Or.inl (hw _ (List.mem_of_getElem? (i := 79) rfl))) (t := .int) (by decide) (Own.LaidAll.cons (Or.inl (hw _ (List.mem_of_getElem? (i := 310) rfl))) (t := .boolean) (by decide) (Own.LaidAll.nil))))⟩
abbrev ush (x k : Int32) : Int32 := (x.toUInt32 >>> (k &&& 31).toUInt32).toInt32
theorem own_ch {x : Int32} (h : x &&& 255 = x) : ¬ (255 : Int32) < x := by
  have q := c_mask x 255 8 (by decide) (by decide)
  rw [h] at q
  rw [Int32.lt_iff_toInt_lt, q]
  have h2 : (255 : Int32).toInt = 255 := rfl
  omega
theorem own_id (x : Int32) : (x &&& 255) &&& 255 = x &&& 255 := by
  have q := c_mask x 255 8 (by decide) (by decide)
  have r := c_mask (x &&& 255) 255 8 (by decide) (by decide)
  exact Int32.toInt_inj.mp (by omega)
theorem own_back {x : Int32} (h : x &&& 255 = x) : x.toInt8.toInt32 &&& 255 = x := by
  have q := c_mask x 255 8 (by decide) (by decide)
  have r := c_mask x.toInt8.toInt32 255 8 (by decide) (by decide)
  have b := (c_i2b x).1
  rw [h] at q
  exact Int32.toInt_inj.mp (by omega)
theorem own_nar {x : Int32} (h : x &&& 255 = x) : nar .char x = x := by rw [← h]; exact i2c_mask x
abbrev own_by (cs : List Int32) : List Int32 := cs.map fun z => z.toInt8.toInt32
theorem own_by_map (cs : List Int32) : cs.map Own.byt = (own_by cs).map Value.int := by simp [own_by, List.map_map, Function.comp_def]
def U16s (G : Own.Gx) : Prop := Sta G.Z G.Z.heap "java/lang/StringUTF16" "$assertionsDisabled" "Z" (.int 1) ∧ Sta G.Z G.Z.heap "java/lang/StringUTF16" "HI_BYTE_SHIFT" "I" (.int 0) ∧ Sta G.Z G.Z.heap "java/lang/StringUTF16" "LO_BYTE_SHIFT" "I" (.int 8)
def own_lat (cs : List Int32) : Prop := ∀ z ∈ cs, ¬ (255 : Int32) < z
instance (cs : List Int32) : Decidable (own_lat cs) := inferInstanceAs (Decidable (∀ z ∈ cs, ¬ (255 : Int32) < z))
/-- a String's bytes and its coder, by its signs -/
def own_enc (cs : List Int32) : List Int32 := if own_lat cs then own_by cs else Own.u16 cs
def own_cod (cs : List Int32) : Int32 := if own_lat cs then 0 else 1
theorem own_enc_l {cs : List Int32} (h : own_lat cs) : own_enc cs = own_by cs := if_pos h
theorem own_enc_n {cs : List Int32} (h : ¬ own_lat cs) : own_enc cs = Own.u16 cs := if_neg h
theorem own_cod_l {cs : List Int32} (h : own_lat cs) : own_cod cs = 0 := if_pos h
theorem own_cod_n {cs : List Int32} (h : ¬ own_lat cs) : own_cod cs = 1 := if_neg h
theorem own_cod_nar (cs : List Int32) : narrow .byte (.int (own_cod cs)) = .int (own_cod cs) := by unfold own_cod; split <;> rfl
theorem own_cod_fit (cs : List Int32) : fits .byte (.int (own_cod cs)) = true := by unfold own_cod; split <;> rfl
/-- a frozen String of these signs -/
def StrT (As : List Own.Ent) (a : Addr) (cs : List Int32) : Prop := Own.StrK As a ((own_enc cs).map Value.int) (own_cod cs)
theorem StrT.sub {As As' : List Own.Ent} {a : Addr} {cs : List Int32} (q : StrT As a cs) (s : Own.Sub As As') : StrT As' a cs := Own.StrK.sub q s
theorem StrT.stay {As As' : List Own.Ent} {a : Addr} {cs : List Int32} (q : StrT As a cs) (s : Own.Stay As As') : StrT As' a cs := Own.StrK.stay q s
theorem StrT.lat {As : List Own.Ent} {a : Addr} {cs : List Int32} (q : StrT As a cs) (h : own_lat cs) : Own.StrF As a ((own_by cs).map Value.int) := by
  unfold StrT at q; rw [own_enc_l h, own_cod_l h] at q; exact q
theorem StrT.wide {As : List Own.Ent} {a : Addr} {cs : List Int32} (q : StrT As a cs) (h : ¬ own_lat cs) : Own.StrK As a ((Own.u16 cs).map Value.int) 1 := by
  unfold StrT at q; rw [own_enc_n h, own_cod_n h] at q; exact q
theorem own_ps0 {X : List Int32} {i cap : Nat} {z : Int32} (hX : X.length = i) (hc : i < cap) : (Own.pad X cap).set i (.int z) = Own.pad (X ++ [z]) cap := by
  subst hX; exact Own.pad_set hc
theorem own_i2c2 (x : Int32) : (x.toUInt32.toUInt16.toUInt32.toInt32).toUInt32.toUInt16.toUInt32.toInt32 = x.toUInt32.toUInt16.toUInt32.toInt32 := by
  have q := c_i2c x
  have r := c_i2c x.toUInt32.toUInt16.toUInt32.toInt32
  exact Int32.toInt_inj.mp (by omega)
theorem d42_0 : decode jdk_52_method_21_code 0 = .ok (.iconst 0, 1) := by decide +kernel
theorem d42_1 : decode jdk_52_method_21_code 1 = .ok (.istore 5, 2) := by decide +kernel
theorem d42_3 : decode jdk_52_method_21_code 3 = .ok (.iload 5, 2) := by decide +kernel
theorem d42_5 : decode jdk_52_method_21_code 5 = .ok (.iload 4, 2) := by decide +kernel
theorem d42_7 : decode jdk_52_method_21_code 7 = .ok (.if_icmp .ge 37, 3) := by decide +kernel
theorem d42_44 : decode jdk_52_method_21_code 44 = .ok (.iload 4, 2) := by decide +kernel
theorem d42_46 : decode jdk_52_method_21_code 46 = .ok (.ireturn, 1) := by decide +kernel
theorem d42_10 : decode jdk_52_method_21_code 10 = .ok (.aload_n 0, 1) := by decide +kernel
theorem d42_11 : decode jdk_52_method_21_code 11 = .ok (.iload_n 1, 1) := by decide +kernel
theorem d42_12 : decode jdk_52_method_21_code 12 = .ok (.caload, 1) := by decide +kernel
theorem d42_13 : decode jdk_52_method_21_code 13 = .ok (.istore 6, 2) := by decide +kernel
theorem d42_15 : decode jdk_52_method_21_code 15 = .ok (.iload 6, 2) := by decide +kernel
theorem d42_17 : decode jdk_52_method_21_code 17 = .ok (.sipush 255, 3) := by decide +kernel
theorem d42_20 : decode jdk_52_method_21_code 20 = .ok (.if_icmp .le 6, 3) := by decide +kernel
theorem d42_26 : decode jdk_52_method_21_code 26 = .ok (.aload_n 2, 1) := by decide +kernel
theorem d42_27 : decode jdk_52_method_21_code 27 = .ok (.iload_n 3, 1) := by decide +kernel
theorem d42_28 : decode jdk_52_method_21_code 28 = .ok (.iload 6, 2) := by decide +kernel
theorem d42_30 : decode jdk_52_method_21_code 30 = .ok (.i2b, 1) := by decide +kernel
theorem d42_31 : decode jdk_52_method_21_code 31 = .ok (.bastore, 1) := by decide +kernel
theorem d42_32 : decode jdk_52_method_21_code 32 = .ok (.iinc 1 1, 3) := by decide +kernel
theorem d42_35 : decode jdk_52_method_21_code 35 = .ok (.iinc 3 1, 3) := by decide +kernel
theorem d42_38 : decode jdk_52_method_21_code 38 = .ok (.iinc 5 1, 3) := by decide +kernel
theorem d42_41 : decode jdk_52_method_21_code 41 = .ok (.goto (-38), 3) := by decide +kernel
theorem pn_5999480 : plainFor (⟨"java/lang/StringUTF16", "compress", "([CI[BII)I"⟩ : MethodName) = true := by first | exact plainFor_of_name (by first | (simp [plainName, overriddenIn]; done) | decide +kernel) | decide +kernel
set_option maxRecDepth 65536 in
set_option maxHeartbeats 4000000 in
theorem ct_cmp (G : Own.Gx) (hw : ∀ d ∈ tables_1, d.before G.a0 G.Z = true) {As : List Own.Ent} {Li : List Own.LitE} (c b : Addr) (cs : List Int32) (hlen : cs.length < 2147483648) (hch : ∀ z ∈ cs, ¬ (255 : Int32) < z) (hm : Own.AVin G As c .char (cs.map Value.int)) :
    Own.Ct G [] (⟨"java/lang/StringUTF16", "compress", "([CI[BII)I"⟩ : MethodName) jdk_52_method_21_code 7 (some .int) ({ frames := 0, cells := 0, slots := 0, locals := 0 } : Room) [.ref c, .int 0, .ref b, .int 0, .int cs.length.toInt32] ((b, true, Own.arr .byte (List.replicate cs.length (.int 0))) :: As) Li (fun v A L => v = some (.int cs.length.toInt32) ∧ A = (b, true, Own.arr .byte (cs.map Own.byt)) :: As ∧ L = Li) := by
  refine Own.Ct.intro pn_5999480 (Ls := [.val (.ref c), .val (.int 0), .val (.ref b), .val (.int 0), .val (.int cs.length.toInt32), .unset, .unset]) rfl rfl ?_
  intro K
  suffices loop : ∀ (m k : Nat) (o : Slot), k + m = cs.length → One o → Own.W G K (⟨"java/lang/StringUTF16", "compress", "([CI[BII)I"⟩ : MethodName) jdk_52_method_21_code (some .int) ({ frames := 0, cells := 0, slots := 0, locals := 0 } : Room) (fun v A L => v = some (.int cs.length.toInt32) ∧ A = (b, true, Own.arr .byte (cs.map Own.byt)) :: As ∧ L = Li) ((b, true, Own.arr .byte ((cs.take k).map Own.byt ++ List.replicate m (.int 0))) :: As) Li 0 0 3 [.val (.ref c), .val (.int k.toInt32), .val (.ref b), .val (.int k.toInt32), .val (.int cs.length.toInt32), .val (.int k.toInt32), o] [] by
    refine Own.W.iconst (pc := 0) (z := (0 : Int32)) d42_0 (by decide) ?_
    refine Own.W.istore (pc := 1) (Ls' := [_, _, _, _, _, _, _]) d42_1 rfl rfl ?_
    exact loop cs.length 0 .unset (by simp) One.u
  intro m
  induction m with
  | zero =>
    intro k o hk ho
    obtain rfl : k = cs.length := by omega
    refine Own.W.iload (pc := 3) d42_3 rfl ?_
    refine Own.W.iload (pc := 5) d42_5 rfl ?_
    refine Own.W.ic_ge (pc := 7) 44 d42_7 (by decide) (by decide) ?_ (fun h7 => absurd h7 (Own.n_nlt (Nat.le_refl _) hlen))
    intro h7
    refine Own.W.iload (pc := 44) d42_44 rfl ?_
    refine Own.W.iret (pc := 46) d42_46 rfl (by simp) (by first | rfl | decide) ?_ (Nat.le_of_ble_eq_true rfl) (Nat.le_of_ble_eq_true rfl)
    exact ⟨rfl, by rw [Own.own_done], rfl⟩
  | succ m ih =>
    intro k o hk ho
    have hkl : k < cs.length := by omega
    refine Own.W.iload (pc := 3) d42_3 rfl ?_
    refine Own.W.iload (pc := 5) d42_5 rfl ?_
    refine Own.W.ic_ge (pc := 7) 44 d42_7 (by decide) (by decide) (fun h7 => absurd h7 (fun q => q (Own.n_lt hkl hlen))) ?_
    intro h7
    refine Own.W.aloadN (pc := 10) d42_10 rfl rfl ?_
    refine Own.W.iloadN (pc := 11) d42_11 rfl ?_
    refine Own.W.caload (pc := 12) d42_12 (hm.sub (Own.Sub.cons (Own.Sub.refl _))) (Own.n_nn (by omega)) (v := .int cs[k]) (by rw [Own.n_clamp (by omega)]; simp [hkl]) ?_
    refine Own.W.istore (pc := 13) (Ls' := [_, _, _, _, _, _, _]) d42_13 (Own.store_one rfl ho rfl) rfl ?_
    refine Own.W.iload (pc := 15) d42_15 rfl ?_
    refine Own.W.sipush (pc := 17) (z := (255 : Int32)) d42_17 (by decide) ?_
    refine Own.W.ic_le (pc := 20) 26 d42_20 (by decide) (by decide) ?_ (fun h20 => absurd h20 (hch _ (List.getElem_mem _)))
    intro h20
    refine Own.W.aloadN (pc := 26) d42_26 rfl rfl ?_
    refine Own.W.iloadN (pc := 27) d42_27 rfl ?_
    refine Own.W.iload (pc := 28) d42_28 rfl ?_
    refine Own.W.i2b (pc := 30) d42_30 rfl ?_
    refine Own.W.bastore (pc := 31) d42_31 (Own.n_nn (by omega)) (Own.n_clamp (by omega)) (by simp; omega) (u := Own.byt cs[k]) (by simp [nar]) (Own.own_fill cs hkl hk) Own.Upd.head ?_
    refine Own.W.iinc (pc := 32) (z := (1 : Int32)) (Ls' := [_, _, _, _, _, _, _]) d42_32 rfl (by decide) rfl rfl ?_
    refine Own.W.iinc (pc := 35) (z := (1 : Int32)) (Ls' := [_, _, _, _, _, _, _]) d42_35 rfl (by decide) rfl rfl ?_
    refine Own.W.iinc (pc := 38) (z := (1 : Int32)) (Ls' := [_, _, _, _, _, _, _]) d42_38 rfl (by decide) rfl rfl ?_
    refine Own.W.goto (pc := 41) 3 d42_41 (by decide) (by decide) ?_
    have ih' := ih (k + 1) (.val (.int cs[k])) (by omega) (One.val rfl)
    rw [← Own.n_succ] at ih'
    exact ih'
theorem d41_0 : decode jdk_52_method_16_code 0 = .ok (.iload_n 2, 1) := by decide +kernel
theorem d41_1 : decode jdk_52_method_16_code 1 = .ok (.newarray .byte, 2) := by decide +kernel
theorem d41_3 : decode jdk_52_method_16_code 3 = .ok (.astore_n 3, 1) := by decide +kernel
theorem d41_4 : decode jdk_52_method_16_code 4 = .ok (.aload_n 0, 1) := by decide +kernel
theorem d41_5 : decode jdk_52_method_16_code 5 = .ok (.iload_n 1, 1) := by decide +kernel
theorem d41_6 : decode jdk_52_method_16_code 6 = .ok (.aload_n 3, 1) := by decide +kernel
theorem d41_7 : decode jdk_52_method_16_code 7 = .ok (.iconst 0, 1) := by decide +kernel
theorem d41_8 : decode jdk_52_method_16_code 8 = .ok (.iload_n 2, 1) := by decide +kernel
theorem d41_9 : decode jdk_52_method_16_code 9 = .ok (.invokestatic 115, 3) := by decide +kernel
theorem pd_79053557 : parseMethodDescriptor "([CI[BII)I" = some ⟨[(.array .char), .int, (.array .byte), .int, .int], some .int⟩ := by decide +kernel
theorem d41_12 : decode jdk_52_method_16_code 12 = .ok (.istore 4, 2) := by decide +kernel
theorem d41_14 : decode jdk_52_method_16_code 14 = .ok (.iload 4, 2) := by decide +kernel
theorem d41_16 : decode jdk_52_method_16_code 16 = .ok (.iload_n 2, 1) := by decide +kernel
theorem d41_17 : decode jdk_52_method_16_code 17 = .ok (.if_icmp .eq 40, 3) := by decide +kernel
theorem d41_57 : decode jdk_52_method_16_code 57 = .ok (.aload_n 3, 1) := by decide +kernel
theorem d41_58 : decode jdk_52_method_16_code 58 = .ok (.areturn, 1) := by decide +kernel
theorem pn_53398918 : plainFor (⟨"java/lang/StringUTF16", "compress", "([CII)[B"⟩ : MethodName) = true := by first | exact plainFor_of_name (by first | (simp [plainName, overriddenIn]; done) | decide +kernel) | decide +kernel
set_option maxRecDepth 65536 in
set_option maxHeartbeats 4000000 in
theorem ct_cmp2 (G : Own.Gx) (hw : ∀ d ∈ tables_1, d.before G.a0 G.Z = true) {As : List Own.Ent} {Li : List Own.LitE} (c : Addr) (cs : List Int32) (N : Nat) (hN : cs.length ≤ N) (hN4 : N ≤ 4000) (hch : ∀ z ∈ cs, ¬ (255 : Int32) < z) (hm : Own.AVin G As c .char (cs.map Value.int)) :
    Own.Ct G [] (⟨"java/lang/StringUTF16", "compress", "([CII)[B"⟩ : MethodName) jdk_52_method_16_code 6 (some (.array .byte)) ({ frames := 1, cells := 1, slots := N, locals := 18 } : Room) [.ref c, .int 0, .int cs.length.toInt32] As Li (fun v A L => ∃ b, v = some (.ref b) ∧ A = (b, true, Own.arr .byte (cs.map Own.byt)) :: As ∧ L = Li) := by
  refine Own.Ct.intro pn_53398918 (Ls := [.val (.ref c), .val (.int 0), .val (.int cs.length.toInt32), .unset, .unset, .unset]) rfl rfl ?_
  intro K
  refine Own.W.iloadN (pc := 0) d41_0 rfl ?_
  refine Own.W.newP (pc := 1) N (hw _ (List.mem_of_getElem? (i := 20) rfl)) d41_1 rfl (Own.n_nn (by omega)) (by rw [Own.n_clamp (by omega)]; exact hN) (by omega) (vs := (List.replicate cs.length (.int 0))) (by rw [Own.n_clamp (by omega)]; rfl) (Nat.le_of_ble_eq_true rfl) (by first | exact Nat.le_of_ble_eq_true rfl | (simp; done) | (simp; omega)) ?_
  intro o1
  refine Own.W.astoreN (pc := 3) (Ls' := [_, _, _, _, _, _]) d41_3 rfl rfl rfl ?_
  refine Own.W.aloadN (pc := 4) d41_4 rfl rfl ?_
  refine Own.W.iloadN (pc := 5) d41_5 rfl ?_
  refine Own.W.aloadN (pc := 6) d41_6 rfl rfl ?_
  refine Own.W.iconst (pc := 7) (z := (0 : Int32)) d41_7 (by decide) ?_
  refine Own.W.iloadN (pc := 8) d41_8 rfl ?_
  refine Own.W.callS (pc := 9) (ct_cmp G hw c o1 cs (by omega) hch hm) d41_9 (hw _ (List.mem_of_getElem? (i := 258) rfl)) (hw _ (List.mem_of_getElem? (i := 259) rfl)) (hw _ (List.mem_of_getElem? (i := 256) rfl)) (hw _ (List.mem_of_getElem? (i := 260) rfl)) (by decide) pd_79053557 rfl rfl (Nat.le_of_ble_eq_true rfl) (Nat.le_of_ble_eq_true rfl) (by first | exact Nat.le_of_ble_eq_true rfl | (simp; done) | (simp; omega)) (by first | exact Nat.le_of_ble_eq_true rfl | (simp; done) | (simp; omega)) ?_
  rintro _ _ _ ⟨rfl, rfl, rfl⟩
  refine Own.W.istore (pc := 12) (Ls' := [_, _, _, _, _, _]) d41_12 rfl rfl ?_
  refine Own.W.iload (pc := 14) d41_14 rfl ?_
  refine Own.W.iloadN (pc := 16) d41_16 rfl ?_
  refine Own.W.ic_eq (pc := 17) 57 d41_17 (by decide) (by decide) ?_ (fun h17 => absurd h17 (fun q => q rfl))
  intro h17
  refine Own.W.aloadN (pc := 57) d41_57 rfl rfl ?_
  refine Own.W.aret (pc := 58) d41_58 rfl rfl rfl ?_ (Nat.le_of_ble_eq_true rfl) (by first | exact Nat.le_of_ble_eq_true rfl | (simp; done) | (simp; omega))
  exact ⟨_, rfl, rfl, rfl⟩
theorem d48_0 : decode jdk_52_method_15_code 0 = .ok (.iload_n 1, 1) := by decide +kernel
theorem d48_1 : decode jdk_52_method_15_code 1 = .ok (.aload_n 0, 1) := by decide +kernel
theorem d48_2 : decode jdk_52_method_15_code 2 = .ok (.arraylength, 1) := by decide +kernel
theorem d48_3 : decode jdk_52_method_15_code 3 = .ok (.isub, 1) := by decide +kernel
theorem d48_4 : decode jdk_52_method_15_code 4 = .ok (.bipush 31, 2) := by decide +kernel
theorem d48_6 : decode jdk_52_method_15_code 6 = .ok (.iushr, 1) := by decide +kernel
theorem d48_7 : decode jdk_52_method_15_code 7 = .ok (.i2b, 1) := by decide +kernel
theorem d48_8 : decode jdk_52_method_15_code 8 = .ok (.ireturn, 1) := by decide +kernel
theorem pn_92531892 : plainFor (⟨"java/lang/StringUTF16", "coderFromArrayLen", "([BI)B"⟩ : MethodName) = true := by first | exact plainFor_of_name (by first | (simp [plainName, overriddenIn]; done) | decide +kernel) | decide +kernel
set_option maxRecDepth 65536 in
set_option maxHeartbeats 4000000 in
theorem ct_cod (G : Own.Gx) (hw : ∀ d ∈ tables_1, d.before G.a0 G.Z = true) {As : List Own.Ent} {Li : List Own.LitE} (b : Addr) (vs : List Value) (z : Int32) (hm : Own.AVin G As b .byte vs) (hz : vs.length.toInt32 = z) :
    Own.Ct G [] (⟨"java/lang/StringUTF16", "coderFromArrayLen", "([BI)B"⟩ : MethodName) jdk_52_method_15_code 2 (some .byte) ({ frames := 0, cells := 0, slots := 0, locals := 0 } : Room) [.ref b, .int z] As Li (fun v A L => v = some (.int 0) ∧ As = A ∧ Li = L) := by
  refine Own.Ct.intro pn_92531892 (Ls := [.val (.ref b), .val (.int z)]) rfl rfl ?_
  intro K
  refine Own.W.iloadN (pc := 0) d48_0 rfl ?_
  refine Own.W.aloadN (pc := 1) d48_1 rfl rfl ?_
  refine Own.W.alen (pc := 2) d48_2 hm hz ?_
  refine Own.W.isub (pc := 3) d48_3 (Int32.sub_self _) ?_
  refine Own.W.bipush (pc := 4) (z := (31 : Int32)) d48_4 (by decide) ?_
  refine Own.W.iushr (pc := 6) d48_6 (z := (0 : Int32)) (by decide) ?_
  refine Own.W.i2b (pc := 7) d48_7 (z := (0 : Int32)) (by decide) ?_
  refine Own.W.iret (pc := 8) d48_8 rfl (by simp) (by first | rfl | decide) ?_ (Nat.le_of_ble_eq_true rfl) (Nat.le_of_ble_eq_true rfl)
  exact ⟨rfl, rfl, rfl⟩
theorem own_txb0 : (Own.txb "").map Value.int = [] := by decide +kernel
theorem d3_0 : decode jdk_42_method_149_code 0 = .ok (.aload_n 0, 1) := by decide +kernel
theorem d3_1 : decode jdk_42_method_149_code 1 = .ok (.invokespecial 1, 3) := by decide +kernel
theorem d3_4 : decode jdk_42_method_149_code 4 = .ok (.iload_n 3, 1) := by decide +kernel
theorem d3_5 : decode jdk_42_method_149_code 5 = .ok (.ifCond .ne 22, 3) := by decide +kernel
theorem d3_8 : decode jdk_42_method_149_code 8 = .ok (.aload_n 0, 1) := by decide +kernel
theorem d3_9 : decode jdk_42_method_149_code 9 = .ok (.ldc 7, 2) := by decide +kernel
theorem d3_11 : decode jdk_42_method_149_code 11 = .ok (.getfield 9, 3) := by decide +kernel
theorem d3_14 : decode jdk_42_method_149_code 14 = .ok (.putfield 9, 3) := by decide +kernel
theorem d3_17 : decode jdk_42_method_149_code 17 = .ok (.aload_n 0, 1) := by decide +kernel
theorem d3_18 : decode jdk_42_method_149_code 18 = .ok (.ldc 7, 2) := by decide +kernel
theorem d3_20 : decode jdk_42_method_149_code 20 = .ok (.getfield 15, 3) := by decide +kernel
theorem d3_23 : decode jdk_42_method_149_code 23 = .ok (.putfield 15, 3) := by decide +kernel
theorem d3_26 : decode jdk_42_method_149_code 26 = .ok (.return_, 1) := by decide +kernel
theorem pn_33051558 : plainFor (⟨"java/lang/String", "<init>", "([CIILjava/lang/Void;)V"⟩ : MethodName) = true := by first | exact plainFor_of_name (by first | (simp [plainName, overriddenIn]; done) | decide +kernel) | decide +kernel
set_option maxRecDepth 65536 in
set_option maxHeartbeats 4000000 in
theorem ct_voidA (G : Own.Gx) (hw : ∀ d ∈ tables_1, d.before G.a0 G.Z = true) (hnw : G.nw = false) (wS : ∀ a ∈ Bundle.stringAtoms, a.before G.a0 G.Z = true) (hcw : Jvm.Lit.compactW.before G.a0 G.Z = true) (hhs7 : Jvm.Lit.constHeld G.Z "java/lang/String" 7) {As : List Own.Ent} {Li : List Own.LitE} (s c : Addr) (hA : Own.LA As Li) :
    Own.Ct G [] (⟨"java/lang/String", "<init>", "([CIILjava/lang/Void;)V"⟩ : MethodName) jdk_42_method_149_code 6 none ({ frames := 1, cells := 2, slots := 4, locals := 12 } : Room) [.ref s, .ref c, .int 0, .int 0, .null] ((s, true, Own.obj "java/lang/String" F_java_lang_String [.null, .int 0]) :: As) Li (fun v A L => ∃ b A0, v = none ∧ A = (s, true, Own.obj "java/lang/String" F_java_lang_String [.ref b, .int 0]) :: A0 ∧ (b, false, Own.arr .byte []) ∈ A0 ∧ Own.Sub As A0 ∧ Own.LA A0 L) := by
  refine Own.Ct.intro pn_33051558 (Ls := [.val (.ref s), .val (.ref c), .val (.int 0), .val (.int 0), .val (.null), .unset]) rfl rfl ?_
  intro K
  refine Own.W.aloadN (pc := 0) d3_0 rfl rfl ?_
  refine Own.W.callO (pc := 1) d3_1 (hw _ (List.mem_of_getElem? (i := 16) rfl)) (hw _ (List.mem_of_getElem? (i := 17) rfl)) (hw _ (List.mem_of_getElem? (i := 18) rfl)) (Nat.le_of_ble_eq_true rfl) (Nat.le_of_ble_eq_true rfl) ?_
  refine Own.W.iloadN (pc := 4) d3_4 rfl ?_
  refine Own.W.if_ne (pc := 5) 27 d3_5 (by decide) (by decide) (fun h5 => absurd h5 (fun q => q rfl)) ?_
  intro h5
  refine Own.W.aloadN (pc := 8) d3_8 rfl rfl ?_
  refine Own.W.ldcG (pc := 9) (n := 0) (vs := (Own.txb "").map Value.int) hnw d3_9 (hw _ (List.mem_of_getElem? (i := 19) rfl)) wS hhs7 hcw (hA.cons1.g _) ⟨by decide +kernel, Own.txb_map _⟩ (by decide +kernel) (by decide) (Nat.le_of_ble_eq_true rfl) (Nat.le_of_ble_eq_true rfl) ?_
  intro a9 b9
  refine Own.W.getF (pc := 11) (host := "") (Or.inl (hw _ (List.mem_of_getElem? (i := 25) rfl))) (Via.refl (O := "java/lang/String")) d3_11 (by repeat (first | exact List.Mem.head _ | assumption | exact List.mem_append_right _ (List.Mem.head _) | apply List.Mem.tail)) (by repeat (first | exact Own.FAt.head | apply Own.FAt.tail)) ?_
  refine Own.W.putF (pc := 14) (host := "") (Or.inl (hw _ (List.mem_of_getElem? (i := 25) rfl))) (Via.refl (O := "java/lang/String")) d3_14 (Or.inr ⟨(hw _ (List.mem_of_getElem? (i := 21) rfl)), rfl, rfl⟩) (hw _ (List.mem_of_getElem? (i := 6) rfl)) (ty := (.array .byte)) (by decide) rfl rfl (by repeat (first | exact Own.Upd.head | exact Own.Upd.mid | apply Own.Upd.tail)) (by repeat (first | exact Own.FUp.head | apply Own.FUp.tail)) ?_
  refine Own.W.aloadN (pc := 17) d3_17 rfl rfl ?_
  refine Own.W.ldcA (pc := 18) d3_18 (hw _ (List.mem_of_getElem? (i := 19) rfl)) (List.Mem.head _) ?_
  refine Own.W.getF (pc := 20) (host := "") (Or.inl (hw _ (List.mem_of_getElem? (i := 26) rfl))) (Via.refl (O := "java/lang/String")) d3_20 (by repeat (first | exact List.Mem.head _ | assumption | exact List.mem_append_right _ (List.Mem.head _) | apply List.Mem.tail)) (by repeat (first | exact Own.FAt.head | apply Own.FAt.tail)) ?_
  refine Own.W.putN (pc := 23) (hw _ (List.mem_of_getElem? (i := 26) rfl)) (Via.refl (O := "java/lang/String")) d3_23 (Or.inr ⟨(hw _ (List.mem_of_getElem? (i := 22) rfl)), rfl, rfl⟩) (hw _ (List.mem_of_getElem? (i := 6) rfl)) (ty := .byte) (by decide) rfl (by first | rfl | decide) (by repeat (first | exact Own.Upd.head | exact Own.Upd.mid | apply Own.Upd.tail)) (by repeat (first | exact Own.FUp.head | apply Own.FUp.tail)) ?_
  refine Own.W.perm ?_ (List.perm_middle (l₁ := [_, _]))
  refine Own.W.vret (pc := 26) d3_26 rfl  ?_ (Nat.le_of_ble_eq_true rfl) (Nat.le_of_ble_eq_true rfl)
  exact ⟨b9, _, rfl, rfl, by rw [own_txb0]; exact List.Mem.tail _ (List.Mem.head _), (Own.Sub.cons (Own.Sub.cons (Own.Sub.refl _))), hA.lit⟩
theorem d2_0 : decode jdk_42_method_3_code 0 = .ok (.aload_n 0, 1) := by decide +kernel
theorem d2_1 : decode jdk_42_method_3_code 1 = .ok (.aload_n 1, 1) := by decide +kernel
theorem d2_2 : decode jdk_42_method_3_code 2 = .ok (.iconst 0, 1) := by decide +kernel
theorem d2_3 : decode jdk_42_method_3_code 3 = .ok (.aload_n 1, 1) := by decide +kernel
theorem d2_4 : decode jdk_42_method_3_code 4 = .ok (.arraylength, 1) := by decide +kernel
theorem d2_5 : decode jdk_42_method_3_code 5 = .ok (.aconst_null, 1) := by decide +kernel
theorem d2_6 : decode jdk_42_method_3_code 6 = .ok (.invokespecial 27, 3) := by decide +kernel
theorem pd_91355479 : parseMethodDescriptor "([CIILjava/lang/Void;)V" = some ⟨[(.array .char), .int, .int, (.object "java/lang/Void")], none⟩ := by decide +kernel
theorem d2_9 : decode jdk_42_method_3_code 9 = .ok (.return_, 1) := by decide +kernel
theorem pn_55852025 : plainFor (⟨"java/lang/String", "<init>", "([C)V"⟩ : MethodName) = true := by first | exact plainFor_of_name (by first | (simp [plainName, overriddenIn]; done) | decide +kernel) | decide +kernel
set_option maxRecDepth 65536 in
set_option maxHeartbeats 4000000 in
theorem ct_strA (G : Own.Gx) (hw : ∀ d ∈ tables_1, d.before G.a0 G.Z = true) (hnw : G.nw = false) (wS : ∀ a ∈ Bundle.stringAtoms, a.before G.a0 G.Z = true) (hcw : Jvm.Lit.compactW.before G.a0 G.Z = true) (hhs7 : Jvm.Lit.constHeld G.Z "java/lang/String" 7) {As : List Own.Ent} {Li : List Own.LitE} (s c : Addr) (hA : Own.LA As Li) (hm : Own.AVin G As c .char []) :
    Own.Ct G [] (⟨"java/lang/String", "<init>", "([C)V"⟩ : MethodName) jdk_42_method_3_code 2 none ({ frames := 2, cells := 2, slots := 4, locals := 29 } : Room) [.ref s, .ref c] ((s, true, Own.obj "java/lang/String" F_java_lang_String [.null, .int 0]) :: As) Li (fun v A L => ∃ b A0, v = none ∧ A = (s, true, Own.obj "java/lang/String" F_java_lang_String [.ref b, .int 0]) :: A0 ∧ (b, false, Own.arr .byte []) ∈ A0 ∧ Own.Sub As A0 ∧ Own.LA A0 L) := by
  refine Own.Ct.intro pn_55852025 (Ls := [.val (.ref s), .val (.ref c)]) rfl rfl ?_
  intro K
  refine Own.W.aloadN (pc := 0) d2_0 rfl rfl ?_
  refine Own.W.aloadN (pc := 1) d2_1 rfl rfl ?_
  refine Own.W.iconst (pc := 2) (z := (0 : Int32)) d2_2 (by decide) ?_
  refine Own.W.aloadN (pc := 3) d2_3 rfl rfl ?_
  refine Own.W.alen (pc := 4) d2_4 (hm.sub (Own.Sub.cons (Own.Sub.refl _))) (z := 0) (by rfl) ?_
  refine Own.W.aconstNull (pc := 5) d2_5 ?_
  refine Own.W.callI (pc := 6) (ct_voidA G hw hnw wS hcw hhs7 s c hA) d2_6 rfl (hw _ (List.mem_of_getElem? (i := 12) rfl)) (hw _ (List.mem_of_getElem? (i := 13) rfl)) (hw _ (List.mem_of_getElem? (i := 7) rfl)) (hw _ (List.mem_of_getElem? (i := 15) rfl)) (by decide) pd_91355479 rfl rfl (Nat.le_of_ble_eq_true rfl) (Nat.le_of_ble_eq_true rfl) (Nat.le_of_ble_eq_true rfl) (Nat.le_of_ble_eq_true rfl) ?_
  rintro _ _ L1 ⟨b, A1, rfl, rfl, h1, h2, h3⟩
  refine Own.W.vret (pc := 9) d2_9 rfl  ?_ (Nat.le_of_ble_eq_true rfl) (Nat.le_of_ble_eq_true rfl)
  exact ⟨b, A1, rfl, rfl, h1, h2, h3⟩
theorem d42_23 : decode jdk_52_method_21_code 23 = .ok (.iload 5, 2) := by decide +kernel
theorem d42_25 : decode jdk_52_method_21_code 25 = .ok (.ireturn, 1) := by decide +kernel
set_option maxRecDepth 65536 in
set_option maxHeartbeats 4000000 in
theorem ct_cmpW (G : Own.Gx) (hw : ∀ d ∈ tables_1, d.before G.a0 G.Z = true) {As : List Own.Ent} {Li : List Own.LitE} (c b : Addr) (cs : List Int32) (i : Nat) (hi : i < cs.length) (hlen : cs.length < 2147483648) (hbig : (255 : Int32) < cs[i]) (hch : ∀ z ∈ cs.take i, ¬ (255 : Int32) < z) (hm : Own.AVin G As c .char (cs.map Value.int)) :
    Own.Ct G [] (⟨"java/lang/StringUTF16", "compress", "([CI[BII)I"⟩ : MethodName) jdk_52_method_21_code 7 (some .int) ({ frames := 0, cells := 0, slots := 0, locals := 0 } : Room) [.ref c, .int 0, .ref b, .int 0, .int cs.length.toInt32] ((b, true, Own.arr .byte (List.replicate cs.length (.int 0))) :: As) Li (fun v A L => v = some (.int i.toInt32) ∧ ∃ us, A = (b, true, Own.arr .byte us) :: As ∧ L = Li) := by
  refine Own.Ct.intro pn_5999480 (Ls := [.val (.ref c), .val (.int 0), .val (.ref b), .val (.int 0), .val (.int cs.length.toInt32), .unset, .unset]) rfl rfl ?_
  intro K
  suffices loop : ∀ (m k : Nat) (o : Slot) (us : List Value), k + m = i → us.length = cs.length → One o → Own.W G K (⟨"java/lang/StringUTF16", "compress", "([CI[BII)I"⟩ : MethodName) jdk_52_method_21_code (some .int) ({ frames := 0, cells := 0, slots := 0, locals := 0 } : Room) (fun v A L => v = some (.int i.toInt32) ∧ ∃ us, A = (b, true, Own.arr .byte us) :: As ∧ L = Li) ((b, true, Own.arr .byte us) :: As) Li 0 0 3 [.val (.ref c), .val (.int k.toInt32), .val (.ref b), .val (.int k.toInt32), .val (.int cs.length.toInt32), .val (.int k.toInt32), o] [] by
    refine Own.W.iconst (pc := 0) (z := (0 : Int32)) d42_0 (by decide) ?_
    refine Own.W.istore (pc := 1) (Ls' := [_, _, _, _, _, _, _]) d42_1 rfl rfl ?_
    exact loop i 0 .unset _ (by simp) (by simp) One.u
  intro m
  induction m with
  | zero =>
    intro k o us hk hus ho
    obtain rfl : k = i := by omega
    have hkl := hi
    refine Own.W.iload (pc := 3) d42_3 rfl ?_
    refine Own.W.iload (pc := 5) d42_5 rfl ?_
    refine Own.W.ic_ge (pc := 7) 44 d42_7 (by decide) (by decide) (fun h7 => absurd h7 (fun q => q (Own.n_lt hkl hlen))) ?_
    intro h7
    refine Own.W.aloadN (pc := 10) d42_10 rfl rfl ?_
    refine Own.W.iloadN (pc := 11) d42_11 rfl ?_
    refine Own.W.caload (pc := 12) d42_12 (hm.sub (Own.Sub.cons (Own.Sub.refl _))) (Own.n_nn (by omega)) (v := .int cs[k]) (by rw [Own.n_clamp (by omega)]; simp [hkl]) ?_
    refine Own.W.istore (pc := 13) (Ls' := [_, _, _, _, _, _, _]) d42_13 (Own.store_one rfl ho rfl) rfl ?_
    refine Own.W.iload (pc := 15) d42_15 rfl ?_
    refine Own.W.sipush (pc := 17) (z := (255 : Int32)) d42_17 (by decide) ?_
    refine Own.W.ic_le (pc := 20) 26 d42_20 (by decide) (by decide) (fun h20 => absurd h20 (fun q => q hbig)) ?_
    intro h20
    refine Own.W.iload (pc := 23) d42_23 rfl ?_
    refine Own.W.iret (pc := 25) d42_25 rfl (by simp) rfl ?_ (Nat.le_of_ble_eq_true rfl) (Nat.le_of_ble_eq_true rfl)
    exact ⟨rfl, us, rfl, rfl⟩
  | succ m ih =>
    intro k o us hk hus ho
    have hkl : k < cs.length := by omega
    refine Own.W.iload (pc := 3) d42_3 rfl ?_
    refine Own.W.iload (pc := 5) d42_5 rfl ?_
    refine Own.W.ic_ge (pc := 7) 44 d42_7 (by decide) (by decide) (fun h7 => absurd h7 (fun q => q (Own.n_lt hkl hlen))) ?_
    intro h7
    refine Own.W.aloadN (pc := 10) d42_10 rfl rfl ?_
    refine Own.W.iloadN (pc := 11) d42_11 rfl ?_
    refine Own.W.caload (pc := 12) d42_12 (hm.sub (Own.Sub.cons (Own.Sub.refl _))) (Own.n_nn (by omega)) (v := .int cs[k]) (by rw [Own.n_clamp (by omega)]; simp [hkl]) ?_
    refine Own.W.istore (pc := 13) (Ls' := [_, _, _, _, _, _, _]) d42_13 (Own.store_one rfl ho rfl) rfl ?_
    refine Own.W.iload (pc := 15) d42_15 rfl ?_
    refine Own.W.sipush (pc := 17) (z := (255 : Int32)) d42_17 (by decide) ?_
    refine Own.W.ic_le (pc := 20) 26 d42_20 (by decide) (by decide) ?_ (fun h20 => absurd h20 (hch _ (List.mem_take_iff_getElem.mpr ⟨k, by omega, rfl⟩)))
    intro h20
    refine Own.W.aloadN (pc := 26) d42_26 rfl rfl ?_
    refine Own.W.iloadN (pc := 27) d42_27 rfl ?_
    refine Own.W.iload (pc := 28) d42_28 rfl ?_
    refine Own.W.i2b (pc := 30) d42_30 rfl ?_
    refine Own.W.bastore (pc := 31) d42_31 (Own.n_nn (by omega)) (Own.n_clamp (by omega)) (by omega) (u := Own.byt cs[k]) (by simp [nar]) (vs' := us.set k (Own.byt cs[k])) rfl Own.Upd.head ?_
    refine Own.W.iinc (pc := 32) (z := (1 : Int32)) (Ls' := [_, _, _, _, _, _, _]) d42_32 rfl (by decide) rfl rfl ?_
    refine Own.W.iinc (pc := 35) (z := (1 : Int32)) (Ls' := [_, _, _, _, _, _, _]) d42_35 rfl (by decide) rfl rfl ?_
    refine Own.W.iinc (pc := 38) (z := (1 : Int32)) (Ls' := [_, _, _, _, _, _, _]) d42_38 rfl (by decide) rfl rfl ?_
    refine Own.W.goto (pc := 41) 3 d42_41 (by decide) (by decide) ?_
    have ih' := ih (k + 1) (.val (.int cs[k])) (us.set k (Own.byt cs[k])) (by omega) (by simpa using hus) (One.val rfl)
    rw [← Own.n_succ] at ih'
    exact ih'
theorem d45_0 : decode jdk_52_method_3_code 0 = .ok (.iload_n 0, 1) := by decide +kernel
theorem d45_1 : decode jdk_52_method_3_code 1 = .ok (.ifCond .ge 11, 3) := by decide +kernel
theorem d45_12 : decode jdk_52_method_3_code 12 = .ok (.iload_n 0, 1) := by decide +kernel
theorem d45_13 : decode jdk_52_method_3_code 13 = .ok (.ldc 20, 2) := by decide +kernel
theorem d45_15 : decode jdk_52_method_3_code 15 = .ok (.if_icmp .lt 40, 3) := by decide +kernel
theorem d45_55 : decode jdk_52_method_3_code 55 = .ok (.iload_n 0, 1) := by decide +kernel
theorem d45_56 : decode jdk_52_method_3_code 56 = .ok (.iconst 1, 1) := by decide +kernel
theorem d45_57 : decode jdk_52_method_3_code 57 = .ok (.ishl, 1) := by decide +kernel
theorem d45_58 : decode jdk_52_method_3_code 58 = .ok (.ireturn, 1) := by decide +kernel
theorem pn_84793458 : plainFor (⟨"java/lang/StringUTF16", "newBytesLength", "(I)I"⟩ : MethodName) = true := by first | exact plainFor_of_name (by first | (simp [plainName, overriddenIn]; done) | decide +kernel) | decide +kernel
set_option maxRecDepth 65536 in
set_option maxHeartbeats 4000000 in
theorem ct_nbl (G : Own.Gx) (hw : ∀ d ∈ tables_1, d.before G.a0 G.Z = true) {As : List Own.Ent} {Li : List Own.LitE} (n : Nat) (hn : n ≤ 4000) :
    Own.Ct G [] (⟨"java/lang/StringUTF16", "newBytesLength", "(I)I"⟩ : MethodName) jdk_52_method_3_code 1 (some .int) ({ frames := 0, cells := 0, slots := 0, locals := 0 } : Room) [.int n.toInt32] As Li (fun v A L => v = some (.int (2 * n).toInt32) ∧ As = A ∧ Li = L) := by
  refine Own.Ct.intro pn_84793458 (Ls := [.val (.int n.toInt32)]) rfl rfl ?_
  intro K
  refine Own.W.iloadN (pc := 0) d45_0 rfl ?_
  refine Own.W.if_ge (pc := 1) 12 d45_1 (by decide) (by decide) ?_ (fun h1 => absurd h1 (Own.n_nn (by omega)))
  intro h1
  refine Own.W.iloadN (pc := 12) d45_12 rfl ?_
  refine Own.W.ldcI (pc := 13) (z := 1073741823) (hw _ (List.mem_of_getElem? (i := 270) rfl)) d45_13 ?_
  refine Own.W.ic_lt (pc := 15) 55 d45_15 (by decide) (by decide) ?_ (fun h15 => absurd h15 (fun q => q (Own.n_lt (b := 1073741823) (by omega) (by decide))))
  intro h15
  refine Own.W.iloadN (pc := 55) d45_55 rfl ?_
  refine Own.W.iconst (pc := 56) (z := (1 : Int32)) d45_56 (by decide) ?_
  refine Own.W.ishl (pc := 57) d45_57 (z := (2 * n).toInt32) (Own.n_dbl (by omega)) ?_
  refine Own.W.iret (pc := 58) d45_58 rfl (by simp) rfl ?_ (Nat.le_of_ble_eq_true rfl) (Nat.le_of_ble_eq_true rfl)
  exact ⟨rfl, rfl, rfl⟩
theorem d44_0 : decode jdk_52_method_2_code 0 = .ok (.iload_n 0, 1) := by decide +kernel
theorem d44_1 : decode jdk_52_method_2_code 1 = .ok (.invokestatic 11, 3) := by decide +kernel
theorem pd_87992008 : parseMethodDescriptor "(I)I" = some ⟨[.int], some .int⟩ := by decide +kernel
theorem d44_4 : decode jdk_52_method_2_code 4 = .ok (.newarray .byte, 2) := by decide +kernel
theorem d44_6 : decode jdk_52_method_2_code 6 = .ok (.areturn, 1) := by decide +kernel
theorem pn_66296203 : plainFor (⟨"java/lang/StringUTF16", "newBytesFor", "(I)[B"⟩ : MethodName) = true := by first | exact plainFor_of_name (by first | (simp [plainName, overriddenIn]; done) | decide +kernel) | decide +kernel
set_option maxRecDepth 65536 in
set_option maxHeartbeats 4000000 in
theorem ct_nbf (G : Own.Gx) (hw : ∀ d ∈ tables_1, d.before G.a0 G.Z = true) {As : List Own.Ent} {Li : List Own.LitE} (n N : Nat) (hn : 2 * n ≤ N) (hN : N ≤ 4000) :
    Own.Ct G [] (⟨"java/lang/StringUTF16", "newBytesFor", "(I)[B"⟩ : MethodName) jdk_52_method_2_code 1 (some (.array .byte)) ({ frames := 1, cells := 1, slots := N, locals := 12 } : Room) [.int n.toInt32] As Li (fun v A L => ∃ o, v = some (.ref o) ∧ A = (o, true, Own.arr .byte (Own.pad [] (2 * n))) :: As ∧ Li = L) := by
  refine Own.Ct.intro pn_66296203 (Ls := [.val (.int n.toInt32)]) rfl rfl ?_
  intro K
  refine Own.W.iloadN (pc := 0) d44_0 rfl ?_
  refine Own.W.callS (pc := 1) (ct_nbl G hw n (by omega)) d44_1 (hw _ (List.mem_of_getElem? (i := 267) rfl)) (hw _ (List.mem_of_getElem? (i := 268) rfl)) (hw _ (List.mem_of_getElem? (i := 256) rfl)) (hw _ (List.mem_of_getElem? (i := 269) rfl)) (by decide) pd_87992008 rfl rfl (Nat.le_of_ble_eq_true rfl) (Nat.le_of_ble_eq_true rfl) (by first | exact Nat.le_of_ble_eq_true rfl | (simp; done) | (simp; omega)) (by first | exact Nat.le_of_ble_eq_true rfl | (simp; done) | (simp; omega)) ?_
  rintro _ _ _ ⟨rfl, rfl, rfl⟩
  refine Own.W.newP (pc := 4) N (hw _ (List.mem_of_getElem? (i := 20) rfl)) d44_4 rfl (Own.n_nn (by omega)) (by rw [Own.n_clamp (by omega)]; omega) (by omega) (vs := (List.replicate (2 * n) (Value.int 0))) (by rw [Own.n_clamp (by omega)]; rfl) (Nat.le_of_ble_eq_true rfl) (by first | exact Nat.le_of_ble_eq_true rfl | (simp; done) | (simp; omega)) ?_
  intro o4
  refine Own.W.aret (pc := 6) d44_6 rfl rfl rfl ?_ (by first | exact Nat.le_of_ble_eq_true rfl | (simp; done) | (simp; omega)) (by first | exact Nat.le_of_ble_eq_true rfl | (simp; done) | (simp; omega))
  exact ⟨_, rfl, by rw [Own.pad_nil]; rfl, rfl⟩
theorem d53_0 : decode jdk_52_method_6_code 0 = .ok (.aload_n 0, 1) := by decide +kernel
theorem d53_1 : decode jdk_52_method_6_code 1 = .ok (.arraylength, 1) := by decide +kernel
theorem d53_2 : decode jdk_52_method_6_code 2 = .ok (.iconst 1, 1) := by decide +kernel
theorem d53_3 : decode jdk_52_method_6_code 3 = .ok (.ishr, 1) := by decide +kernel
theorem d53_4 : decode jdk_52_method_6_code 4 = .ok (.ireturn, 1) := by decide +kernel
theorem pn_14889461 : plainFor (⟨"java/lang/StringUTF16", "length", "([B)I"⟩ : MethodName) = true := by first | exact plainFor_of_name (by first | (simp [plainName, overriddenIn]; done) | decide +kernel) | decide +kernel
set_option maxRecDepth 65536 in
set_option maxHeartbeats 4000000 in
theorem ct_ule (G : Own.Gx) (hw : ∀ d ∈ tables_1, d.before G.a0 G.Z = true) {As : List Own.Ent} {Li : List Own.LitE} (b : Addr) (vs : List Value) (n : Nat) (hn : n ≤ 4000) (hv : vs.length = 2 * n) (hm : Own.AVin G As b .byte vs) :
    Own.Ct G [] (⟨"java/lang/StringUTF16", "length", "([B)I"⟩ : MethodName) jdk_52_method_6_code 1 (some .int) ({ frames := 0, cells := 0, slots := 0, locals := 0 } : Room) [.ref b] As Li (fun v A L => v = some (.int n.toInt32) ∧ As = A ∧ Li = L) := by
  refine Own.Ct.intro pn_14889461 (Ls := [.val (.ref b)]) rfl rfl ?_
  intro K
  refine Own.W.aloadN (pc := 0) d53_0 rfl rfl ?_
  refine Own.W.alen (pc := 1) d53_1 hm (z := (2 * n).toInt32) (by rw [hv]) ?_
  refine Own.W.iconst (pc := 2) (z := (1 : Int32)) d53_2 (by decide) ?_
  refine Own.W.ishr (pc := 3) d53_3 (z := n.toInt32) (Own.n_half (by omega)) ?_
  refine Own.W.iret (pc := 4) d53_4 rfl (by simp) rfl ?_ (Nat.le_of_ble_eq_true rfl) (Nat.le_of_ble_eq_true rfl)
  exact ⟨rfl, rfl, rfl⟩
theorem d46_0 : decode jdk_52_method_4_code 0 = .ok (.getstatic 44, 3) := by decide +kernel
theorem d46_3 : decode jdk_52_method_4_code 3 = .ok (.ifCond .ne 25, 3) := by decide +kernel
theorem d46_28 : decode jdk_52_method_4_code 28 = .ok (.iload_n 1, 1) := by decide +kernel
theorem d46_29 : decode jdk_52_method_4_code 29 = .ok (.iconst 1, 1) := by decide +kernel
theorem d46_30 : decode jdk_52_method_4_code 30 = .ok (.ishl, 1) := by decide +kernel
theorem d46_31 : decode jdk_52_method_4_code 31 = .ok (.istore_n 1, 1) := by decide +kernel
theorem d46_32 : decode jdk_52_method_4_code 32 = .ok (.aload_n 0, 1) := by decide +kernel
theorem d46_33 : decode jdk_52_method_4_code 33 = .ok (.iload_n 1, 1) := by decide +kernel
theorem d46_34 : decode jdk_52_method_4_code 34 = .ok (.iinc 1 1, 3) := by decide +kernel
theorem d46_37 : decode jdk_52_method_4_code 37 = .ok (.iload_n 2, 1) := by decide +kernel
theorem d46_38 : decode jdk_52_method_4_code 38 = .ok (.getstatic 59, 3) := by decide +kernel
theorem d46_41 : decode jdk_52_method_4_code 41 = .ok (.ishr, 1) := by decide +kernel
theorem d46_42 : decode jdk_52_method_4_code 42 = .ok (.i2b, 1) := by decide +kernel
theorem d46_43 : decode jdk_52_method_4_code 43 = .ok (.bastore, 1) := by decide +kernel
theorem d46_44 : decode jdk_52_method_4_code 44 = .ok (.aload_n 0, 1) := by decide +kernel
theorem d46_45 : decode jdk_52_method_4_code 45 = .ok (.iload_n 1, 1) := by decide +kernel
theorem d46_46 : decode jdk_52_method_4_code 46 = .ok (.iload_n 2, 1) := by decide +kernel
theorem d46_47 : decode jdk_52_method_4_code 47 = .ok (.getstatic 63, 3) := by decide +kernel
theorem d46_50 : decode jdk_52_method_4_code 50 = .ok (.ishr, 1) := by decide +kernel
theorem d46_51 : decode jdk_52_method_4_code 51 = .ok (.i2b, 1) := by decide +kernel
theorem d46_52 : decode jdk_52_method_4_code 52 = .ok (.bastore, 1) := by decide +kernel
theorem d46_53 : decode jdk_52_method_4_code 53 = .ok (.return_, 1) := by decide +kernel
theorem pn_21108329 : plainFor (⟨"java/lang/StringUTF16", "putChar", "([BII)V"⟩ : MethodName) = true := by first | exact plainFor_of_name (by first | (simp [plainName, overriddenIn]; done) | decide +kernel) | decide +kernel
set_option maxRecDepth 65536 in
set_option maxHeartbeats 4000000 in
theorem ct_puc (G : Own.Gx) (hw : ∀ d ∈ tables_1, d.before G.a0 G.Z = true) (hV : U16s G) {As : List Own.Ent} {Li : List Own.LitE} (b : Addr) (X : List Int32) (i cap : Nat) (z : Int32) (hX : X.length = 2 * i) (hc : 2 * i + 2 ≤ cap) (hc4 : cap ≤ 4000) :
    Own.Ct G [] (⟨"java/lang/StringUTF16", "putChar", "([BII)V"⟩ : MethodName) jdk_52_method_4_code 3 none ({ frames := 0, cells := 0, slots := 0, locals := 0 } : Room) [.ref b, .int i.toInt32, .int z] ((b, true, Own.arr .byte (Own.pad X cap)) :: As) Li (fun v A L => v = none ∧ A = (b, true, Own.arr .byte (Own.pad (X ++ [Own.lo z] ++ [Own.hi z]) cap)) :: As ∧ Li = L) := by
  refine Own.Ct.intro pn_21108329 (Ls := [.val (.ref b), .val (.int i.toInt32), .val (.int z)]) rfl rfl ?_
  intro K
  refine Own.W.getS (pc := 0) (host := "") (Or.inl (hw _ (List.mem_of_getElem? (i := 274) rfl))) (Via.refl (O := "java/lang/StringUTF16")) d46_0 hV.1 ?_
  refine Own.W.if_ne (pc := 3) 28 d46_3 (by decide) (by decide) ?_ (fun h3 => absurd h3 (by decide))
  intro h3
  refine Own.W.iloadN (pc := 28) d46_28 rfl ?_
  refine Own.W.iconst (pc := 29) (z := (1 : Int32)) d46_29 (by decide) ?_
  refine Own.W.ishl (pc := 30) d46_30 (z := (2 * i).toInt32) (Own.n_dbl (by omega)) ?_
  refine Own.W.istoreN (pc := 31) (Ls' := [_, _, _]) d46_31 rfl rfl ?_
  refine Own.W.aloadN (pc := 32) d46_32 rfl rfl ?_
  refine Own.W.iloadN (pc := 33) d46_33 rfl ?_
  refine Own.W.iinc (pc := 34) (z := (1 : Int32)) (Ls' := [_, _, _]) d46_34 rfl (by decide) rfl rfl ?_
  rw [Own.n_succ]
  refine Own.W.iloadN (pc := 37) d46_37 rfl ?_
  refine Own.W.getS (pc := 38) (host := "") (Or.inl (hw _ (List.mem_of_getElem? (i := 275) rfl))) (Via.refl (O := "java/lang/StringUTF16")) d46_38 hV.2.1 ?_
  refine Own.W.ishr (pc := 41) d46_41 (z := z) (Own.shr0' _) ?_
  refine Own.W.i2b (pc := 42) d46_42 (z := Own.lo z) rfl ?_
  refine Own.W.bastore (pc := 43) d46_43 (Own.n_nn (by omega)) (i := 2 * i) (Own.n_clamp (by omega)) (by rw [Own.pad_len (by omega)]; omega) (u := .int (Own.lo z)) (by simp [nar, Own.lo]) (own_ps0 hX (by omega)) Own.Upd.head ?_
  refine Own.W.aloadN (pc := 44) d46_44 rfl rfl ?_
  refine Own.W.iloadN (pc := 45) d46_45 rfl ?_
  refine Own.W.iloadN (pc := 46) d46_46 rfl ?_
  refine Own.W.getS (pc := 47) (host := "") (Or.inl (hw _ (List.mem_of_getElem? (i := 276) rfl))) (Via.refl (O := "java/lang/StringUTF16")) d46_47 hV.2.2 ?_
  refine Own.W.ishr (pc := 50) d46_50 rfl ?_
  refine Own.W.i2b (pc := 51) d46_51 (z := Own.hi z) rfl ?_
  refine Own.W.bastore (pc := 52) d46_52 (Own.n_nn (by omega)) (i := 2 * i + 1) (Own.n_clamp (by omega)) (by rw [Own.pad_len (by simp; omega)]; omega) (u := .int (Own.hi z)) (by simp [nar, Own.hi]) (own_ps0 (by simp [hX]) (by omega)) Own.Upd.head ?_
  refine Own.W.vret (pc := 53) d46_53 rfl ?_ (Nat.le_of_ble_eq_true rfl) (Nat.le_of_ble_eq_true rfl)
  exact ⟨rfl, rfl, rfl⟩
theorem d43_0 : decode jdk_52_method_14_code 0 = .ok (.iload_n 2, 1) := by decide +kernel
theorem d43_1 : decode jdk_52_method_14_code 1 = .ok (.invokestatic 107, 3) := by decide +kernel
theorem pd_84260188 : parseMethodDescriptor "(I)[B" = some ⟨[.int], some (.array .byte)⟩ := by decide +kernel
theorem d43_4 : decode jdk_52_method_14_code 4 = .ok (.astore_n 3, 1) := by decide +kernel
theorem d43_5 : decode jdk_52_method_14_code 5 = .ok (.iconst 0, 1) := by decide +kernel
theorem d43_6 : decode jdk_52_method_14_code 6 = .ok (.istore 4, 2) := by decide +kernel
theorem d43_8 : decode jdk_52_method_14_code 8 = .ok (.iload 4, 2) := by decide +kernel
theorem d43_10 : decode jdk_52_method_14_code 10 = .ok (.iload_n 2, 1) := by decide +kernel
theorem d43_11 : decode jdk_52_method_14_code 11 = .ok (.if_icmp .ge 21, 3) := by decide +kernel
theorem d43_32 : decode jdk_52_method_14_code 32 = .ok (.aload_n 3, 1) := by decide +kernel
theorem d43_33 : decode jdk_52_method_14_code 33 = .ok (.areturn, 1) := by decide +kernel
theorem d43_14 : decode jdk_52_method_14_code 14 = .ok (.aload_n 3, 1) := by decide +kernel
theorem d43_15 : decode jdk_52_method_14_code 15 = .ok (.iload 4, 2) := by decide +kernel
theorem d43_17 : decode jdk_52_method_14_code 17 = .ok (.aload_n 0, 1) := by decide +kernel
theorem d43_18 : decode jdk_52_method_14_code 18 = .ok (.iload_n 1, 1) := by decide +kernel
theorem d43_19 : decode jdk_52_method_14_code 19 = .ok (.caload, 1) := by decide +kernel
theorem d43_20 : decode jdk_52_method_14_code 20 = .ok (.invokestatic 111, 3) := by decide +kernel
theorem pd_24296411 : parseMethodDescriptor "([BII)V" = some ⟨[(.array .byte), .int, .int], none⟩ := by decide +kernel
theorem d43_23 : decode jdk_52_method_14_code 23 = .ok (.iinc 1 1, 3) := by decide +kernel
theorem d43_26 : decode jdk_52_method_14_code 26 = .ok (.iinc 4 1, 3) := by decide +kernel
theorem d43_29 : decode jdk_52_method_14_code 29 = .ok (.goto (-21), 3) := by decide +kernel
theorem pn_37004676 : plainFor (⟨"java/lang/StringUTF16", "toBytes", "([CII)[B"⟩ : MethodName) = true := by first | exact plainFor_of_name (by first | (simp [plainName, overriddenIn]; done) | decide +kernel) | decide +kernel
set_option maxRecDepth 65536 in
set_option maxHeartbeats 4000000 in
theorem ct_toB (G : Own.Gx) (hw : ∀ d ∈ tables_1, d.before G.a0 G.Z = true) (hV : U16s G) {As : List Own.Ent} {Li : List Own.LitE} (c : Addr) (cs : List Int32) (N : Nat) (hn : 2 * cs.length ≤ N) (hN4 : N ≤ 4000) (hm : Own.AVin G As c .char (cs.map Value.int)) :
    Own.Ct G [] (⟨"java/lang/StringUTF16", "toBytes", "([CII)[B"⟩ : MethodName) jdk_52_method_14_code 5 (some (.array .byte)) ({ frames := 2, cells := 1, slots := N, locals := 24 } : Room) [.ref c, .int 0, .int cs.length.toInt32] As Li (fun v A L => ∃ o, v = some (.ref o) ∧ A = (o, true, Own.arr .byte ((Own.u16 cs).map Value.int)) :: As ∧ Li = L) := by
  refine Own.Ct.intro pn_37004676 (Ls := [.val (.ref c), .val (.int 0), .val (.int cs.length.toInt32), .unset, .unset]) rfl rfl ?_
  intro K
  refine Own.W.iloadN (pc := 0) d43_0 rfl ?_
  refine Own.W.callS (pc := 1) (ct_nbf G hw cs.length N hn hN4) d43_1 (hw _ (List.mem_of_getElem? (i := 264) rfl)) (hw _ (List.mem_of_getElem? (i := 265) rfl)) (hw _ (List.mem_of_getElem? (i := 256) rfl)) (hw _ (List.mem_of_getElem? (i := 266) rfl)) (by decide) pd_84260188 rfl rfl (Nat.le_of_ble_eq_true rfl) (Nat.le_of_ble_eq_true rfl) (by first | exact Nat.le_of_ble_eq_true rfl | (simp; done) | (simp; omega)) (by first | exact Nat.le_of_ble_eq_true rfl | (simp; done) | (simp; omega)) ?_
  rintro _ _ _ ⟨o, rfl, rfl, rfl⟩
  refine Own.W.astoreN (pc := 4) (Ls' := [_, _, _, _, _]) d43_4 rfl rfl rfl ?_
  refine Own.W.iconst (pc := 5) (z := (0 : Int32)) d43_5 (by decide) ?_
  refine Own.W.istore (pc := 6) (Ls' := [_, _, _, _, _]) d43_6 rfl rfl ?_
  suffices loop : ∀ (m k : Nat), k + m = cs.length → Own.W G K (⟨"java/lang/StringUTF16", "toBytes", "([CII)[B"⟩ : MethodName) jdk_52_method_14_code (some (.array .byte)) ({ frames := 2, cells := 1, slots := N, locals := 24 } : Room) (fun v A L => ∃ o, v = some (.ref o) ∧ A = (o, true, Own.arr .byte ((Own.u16 cs).map Value.int)) :: As ∧ Li = L) ((o, true, Own.arr .byte (Own.pad (Own.u16 (cs.take k)) (2 * cs.length))) :: As) Li (0 + 1) (0 + N) 8 [.val (.ref c), .val (.int k.toInt32), .val (.int cs.length.toInt32), .val (.ref o), .val (.int k.toInt32)] [] from loop cs.length 0 (by simp)
  intro m
  induction m with
  | zero =>
    intro k hk
    obtain rfl : k = cs.length := by omega
    refine Own.W.iload (pc := 8) d43_8 rfl ?_
    refine Own.W.iloadN (pc := 10) d43_10 rfl ?_
    refine Own.W.ic_ge (pc := 11) 32 d43_11 (by decide) (by decide) ?_ (fun h11 => absurd h11 (Own.n_nlt (Nat.le_refl _) (by omega)))
    intro h11
    refine Own.W.aloadN (pc := 32) d43_32 rfl rfl ?_
    refine Own.W.aret (pc := 33) d43_33 rfl rfl rfl ?_ (by first | exact Nat.le_of_ble_eq_true rfl | (simp; done) | (simp; omega)) (by first | exact Nat.le_of_ble_eq_true rfl | (simp; done) | (simp; omega))
    exact ⟨_, rfl, by rw [List.take_length, Own.pad_full (Own.u16_len _)], rfl⟩
  | succ m ih =>
    intro k hk
    have hkl : k < cs.length := by omega
    refine Own.W.iload (pc := 8) d43_8 rfl ?_
    refine Own.W.iloadN (pc := 10) d43_10 rfl ?_
    refine Own.W.ic_ge (pc := 11) 32 d43_11 (by decide) (by decide) (fun h11 => absurd h11 (fun q => q (Own.n_lt hkl (by omega)))) ?_
    intro h11
    refine Own.W.aloadN (pc := 14) d43_14 rfl rfl ?_
    refine Own.W.iload (pc := 15) d43_15 rfl ?_
    refine Own.W.aloadN (pc := 17) d43_17 rfl rfl ?_
    refine Own.W.iloadN (pc := 18) d43_18 rfl ?_
    refine Own.W.caload (pc := 19) d43_19 (hm.sub (Own.Sub.cons (Own.Sub.refl _))) (Own.n_nn (by omega)) (v := .int cs[k]) (by rw [Own.n_clamp (by omega)]; simp [hkl]) ?_
    refine Own.W.callS (pc := 20) (ct_puc G hw hV o _ k (2 * cs.length) cs[k] (by rw [Own.u16_len, List.length_take]; omega) (by omega) (by omega)) d43_20 (hw _ (List.mem_of_getElem? (i := 271) rfl)) (hw _ (List.mem_of_getElem? (i := 272) rfl)) (hw _ (List.mem_of_getElem? (i := 256) rfl)) (hw _ (List.mem_of_getElem? (i := 273) rfl)) (by decide) pd_24296411 rfl rfl (Nat.le_of_ble_eq_true rfl) (Nat.le_of_ble_eq_true rfl) (by first | exact Nat.le_of_ble_eq_true rfl | (simp; done) | (simp; omega)) (by first | exact Nat.le_of_ble_eq_true rfl | (simp; done) | (simp; omega)) ?_
    rintro _ _ _ ⟨rfl, rfl, rfl⟩
    rw [Own.u16_take hkl]
    refine Own.W.iinc (pc := 23) (z := (1 : Int32)) (Ls' := [_, _, _, _, _]) d43_23 rfl (by decide) rfl rfl ?_
    refine Own.W.iinc (pc := 26) (z := (1 : Int32)) (Ls' := [_, _, _, _, _]) d43_26 rfl (by decide) rfl rfl ?_
    refine Own.W.goto (pc := 29) 8 d43_29 (by decide) (by decide) ?_
    have ih' := ih (k + 1) (by omega)
    rw [← Own.n_succ] at ih'
    exact ih'
theorem d47_0 : decode jdk_52_method_5_code 0 = .ok (.getstatic 44, 3) := by decide +kernel
theorem d47_3 : decode jdk_52_method_5_code 3 = .ok (.ifCond .ne 25, 3) := by decide +kernel
theorem d47_28 : decode jdk_52_method_5_code 28 = .ok (.iload_n 1, 1) := by decide +kernel
theorem d47_29 : decode jdk_52_method_5_code 29 = .ok (.iconst 1, 1) := by decide +kernel
theorem d47_30 : decode jdk_52_method_5_code 30 = .ok (.ishl, 1) := by decide +kernel
theorem d47_31 : decode jdk_52_method_5_code 31 = .ok (.istore_n 1, 1) := by decide +kernel
theorem d47_32 : decode jdk_52_method_5_code 32 = .ok (.aload_n 0, 1) := by decide +kernel
theorem d47_33 : decode jdk_52_method_5_code 33 = .ok (.iload_n 1, 1) := by decide +kernel
theorem d47_34 : decode jdk_52_method_5_code 34 = .ok (.iinc 1 1, 3) := by decide +kernel
theorem d47_37 : decode jdk_52_method_5_code 37 = .ok (.baload, 1) := by decide +kernel
theorem d47_38 : decode jdk_52_method_5_code 38 = .ok (.sipush 255, 3) := by decide +kernel
theorem d47_41 : decode jdk_52_method_5_code 41 = .ok (.iand, 1) := by decide +kernel
theorem d47_42 : decode jdk_52_method_5_code 42 = .ok (.getstatic 59, 3) := by decide +kernel
theorem d47_45 : decode jdk_52_method_5_code 45 = .ok (.ishl, 1) := by decide +kernel
theorem d47_46 : decode jdk_52_method_5_code 46 = .ok (.aload_n 0, 1) := by decide +kernel
theorem d47_47 : decode jdk_52_method_5_code 47 = .ok (.iload_n 1, 1) := by decide +kernel
theorem d47_48 : decode jdk_52_method_5_code 48 = .ok (.baload, 1) := by decide +kernel
theorem d47_49 : decode jdk_52_method_5_code 49 = .ok (.sipush 255, 3) := by decide +kernel
theorem d47_52 : decode jdk_52_method_5_code 52 = .ok (.iand, 1) := by decide +kernel
theorem d47_53 : decode jdk_52_method_5_code 53 = .ok (.getstatic 63, 3) := by decide +kernel
theorem d47_56 : decode jdk_52_method_5_code 56 = .ok (.ishl, 1) := by decide +kernel
theorem d47_57 : decode jdk_52_method_5_code 57 = .ok (.ior, 1) := by decide +kernel
theorem d47_58 : decode jdk_52_method_5_code 58 = .ok (.i2c, 1) := by decide +kernel
theorem d47_59 : decode jdk_52_method_5_code 59 = .ok (.ireturn, 1) := by decide +kernel
theorem pn_44865268 : plainFor (⟨"java/lang/StringUTF16", "getChar", "([BI)C"⟩ : MethodName) = true := by first | exact plainFor_of_name (by first | (simp [plainName, overriddenIn]; done) | decide +kernel) | decide +kernel
set_option maxRecDepth 65536 in
set_option maxHeartbeats 4000000 in
theorem ct_gec (G : Own.Gx) (hw : ∀ d ∈ tables_1, d.before G.a0 G.Z = true) (hV : U16s G) {As : List Own.Ent} {Li : List Own.LitE} (b : Addr) (vs : List Value) (i : Nat) (z : Int32) (h0 : vs[2 * i]? = some (.int (Own.lo z))) (h1 : vs[2 * i + 1]? = some (.int (Own.hi z))) (hz : (255 : Int32) < z) (hz2 : z &&& 65535 = z) (hi4 : i ≤ 4000) (hm : Own.AVin G As b .byte vs) :
    Own.Ct G [] (⟨"java/lang/StringUTF16", "getChar", "([BI)C"⟩ : MethodName) jdk_52_method_5_code 2 (some .char) ({ frames := 0, cells := 0, slots := 0, locals := 0 } : Room) [.ref b, .int i.toInt32] As Li (fun v A L => ∃ r, v = some (.int r) ∧ (255 : Int32) < r ∧ As = A ∧ Li = L) := by
  refine Own.Ct.intro pn_44865268 (Ls := [.val (.ref b), .val (.int i.toInt32)]) rfl rfl ?_
  intro K
  refine Own.W.getS (pc := 0) (host := "") (Or.inl (hw _ (List.mem_of_getElem? (i := 274) rfl))) (Via.refl (O := "java/lang/StringUTF16")) d47_0 hV.1 ?_
  refine Own.W.if_ne (pc := 3) 28 d47_3 (by decide) (by decide) ?_ (fun h3 => absurd h3 (by decide))
  intro h3
  refine Own.W.iloadN (pc := 28) d47_28 rfl ?_
  refine Own.W.iconst (pc := 29) (z := (1 : Int32)) d47_29 (by decide) ?_
  refine Own.W.ishl (pc := 30) d47_30 (z := (2 * i).toInt32) (Own.n_dbl (by omega)) ?_
  refine Own.W.istoreN (pc := 31) (Ls' := [_, _]) d47_31 rfl rfl ?_
  refine Own.W.aloadN (pc := 32) d47_32 rfl rfl ?_
  refine Own.W.iloadN (pc := 33) d47_33 rfl ?_
  refine Own.W.iinc (pc := 34) (z := (1 : Int32)) (Ls' := [_, _]) d47_34 rfl (by decide) rfl rfl ?_
  rw [Own.n_succ]
  refine Own.W.baload (pc := 37) d47_37 hm (Own.n_nn (by omega)) (v := .int (Own.lo z)) (by rw [Own.n_clamp (by omega)]; exact h0) ?_
  refine Own.W.sipush (pc := 38) (z := (255 : Int32)) d47_38 (by decide) ?_
  refine Own.W.iand (pc := 41) d47_41 rfl ?_
  refine Own.W.getS (pc := 42) (host := "") (Or.inl (hw _ (List.mem_of_getElem? (i := 275) rfl))) (Via.refl (O := "java/lang/StringUTF16")) d47_42 hV.2.1 ?_
  refine Own.W.ishl (pc := 45) d47_45 (z := (Own.lo z &&& 255)) (Own.shl0 _) ?_
  refine Own.W.aloadN (pc := 46) d47_46 rfl rfl ?_
  refine Own.W.iloadN (pc := 47) d47_47 rfl ?_
  refine Own.W.baload (pc := 48) d47_48 hm (Own.n_nn (by omega)) (v := .int (Own.hi z)) (by rw [Own.n_clamp (by omega)]; exact h1) ?_
  refine Own.W.sipush (pc := 49) (z := (255 : Int32)) d47_49 (by decide) ?_
  refine Own.W.iand (pc := 52) d47_52 rfl ?_
  refine Own.W.getS (pc := 53) (host := "") (Or.inl (hw _ (List.mem_of_getElem? (i := 276) rfl))) (Via.refl (O := "java/lang/StringUTF16")) d47_53 hV.2.2 ?_
  refine Own.W.ishl (pc := 56) d47_56 rfl ?_
  refine Own.W.ior (pc := 57) d47_57 rfl ?_
  refine Own.W.i2c (pc := 58) d47_58 rfl ?_
  refine Own.W.iret (pc := 59) d47_59 rfl (by simp) (congrArg Value.int (own_i2c2 _)) ?_ (Nat.le_of_ble_eq_true rfl) (Nat.le_of_ble_eq_true rfl)
  exact ⟨_, rfl, Own.gc_big hz hz2, rfl, rfl⟩
theorem d41_20 : decode jdk_52_method_16_code 20 = .ok (.aload_n 0, 1) := by decide +kernel
theorem d41_21 : decode jdk_52_method_16_code 21 = .ok (.iload_n 1, 1) := by decide +kernel
theorem d41_22 : decode jdk_52_method_16_code 22 = .ok (.iload_n 2, 1) := by decide +kernel
theorem d41_23 : decode jdk_52_method_16_code 23 = .ok (.invokestatic 119, 3) := by decide +kernel
theorem pd_86865603 : parseMethodDescriptor "([CII)[B" = some ⟨[(.array .char), .int, .int], some (.array .byte)⟩ := by decide +kernel
theorem d41_26 : decode jdk_52_method_16_code 26 = .ok (.astore 5, 2) := by decide +kernel
theorem d41_28 : decode jdk_52_method_16_code 28 = .ok (.aload 5, 2) := by decide +kernel
theorem d41_30 : decode jdk_52_method_16_code 30 = .ok (.iload 4, 2) := by decide +kernel
theorem d41_32 : decode jdk_52_method_16_code 32 = .ok (.invokestatic 71, 3) := by decide +kernel
theorem pd_7843551 : parseMethodDescriptor "([BI)C" = some ⟨[(.array .byte), .int], some .char⟩ := by decide +kernel
theorem d41_35 : decode jdk_52_method_16_code 35 = .ok (.sipush 255, 3) := by decide +kernel
theorem d41_38 : decode jdk_52_method_16_code 38 = .ok (.if_icmp .gt 16, 3) := by decide +kernel
theorem d41_54 : decode jdk_52_method_16_code 54 = .ok (.aload 5, 2) := by decide +kernel
theorem d41_56 : decode jdk_52_method_16_code 56 = .ok (.areturn, 1) := by decide +kernel
set_option maxRecDepth 65536 in
set_option maxHeartbeats 4000000 in
theorem ct_cmpT (G : Own.Gx) (hw : ∀ d ∈ tables_1, d.before G.a0 G.Z = true) (hV : U16s G) {As : List Own.Ent} {Li : List Own.LitE} (c : Addr) (cs : List Int32) (N : Nat) (hN : cs.length ≤ N) (hN4 : N + N ≤ 4000) (h16 : ∀ z ∈ cs, z &&& 65535 = z) (hm : Own.AVin G As c .char (cs.map Value.int)) :
    Own.Ct G [] (⟨"java/lang/StringUTF16", "compress", "([CII)[B"⟩ : MethodName) jdk_52_method_16_code 6 (some (.array .byte)) ({ frames := 3, cells := 2, slots := (N + (N + N)), locals := 40 } : Room) [.ref c, .int 0, .int cs.length.toInt32] As Li (fun v A L => ∃ b J, v = some (.ref b) ∧ A = (b, true, Own.arr .byte ((own_enc cs).map Value.int)) :: (J ++ As) ∧ Li = L) := by
  refine Own.Ct.intro pn_53398918 (Ls := [.val (.ref c), .val (.int 0), .val (.int cs.length.toInt32), .unset, .unset, .unset]) rfl rfl ?_
  intro K
  refine Own.W.iloadN (pc := 0) d41_0 rfl ?_
  refine Own.W.newP (pc := 1) N (hw _ (List.mem_of_getElem? (i := 20) rfl)) d41_1 rfl (Own.n_nn (by omega)) (by rw [Own.n_clamp (by omega)]; omega) (by omega) (vs := (List.replicate cs.length (.int 0))) (by rw [Own.n_clamp (by omega)]; rfl) (Nat.le_of_ble_eq_true rfl) (by first | exact Nat.le_of_ble_eq_true rfl | (simp; done) | (simp; omega)) ?_
  intro o1
  refine Own.W.astoreN (pc := 3) (Ls' := [_, _, _, _, _, _]) d41_3 rfl rfl rfl ?_
  by_cases hl : own_lat cs
  · refine Own.W.aloadN (pc := 4) d41_4 rfl rfl ?_
    refine Own.W.iloadN (pc := 5) d41_5 rfl ?_
    refine Own.W.aloadN (pc := 6) d41_6 rfl rfl ?_
    refine Own.W.iconst (pc := 7) (z := (0 : Int32)) d41_7 (by decide) ?_
    refine Own.W.iloadN (pc := 8) d41_8 rfl ?_
    refine Own.W.callS (pc := 9) (ct_cmp G hw c o1 cs (by omega) hl hm) d41_9 (hw _ (List.mem_of_getElem? (i := 258) rfl)) (hw _ (List.mem_of_getElem? (i := 259) rfl)) (hw _ (List.mem_of_getElem? (i := 256) rfl)) (hw _ (List.mem_of_getElem? (i := 260) rfl)) (by decide) pd_79053557 rfl rfl (Nat.le_of_ble_eq_true rfl) (Nat.le_of_ble_eq_true rfl) (by first | exact Nat.le_of_ble_eq_true rfl | (simp; done) | (simp; omega)) (by first | exact Nat.le_of_ble_eq_true rfl | (simp; done) | (simp; omega)) ?_
    rintro _ _ _ ⟨rfl, rfl, rfl⟩
    refine Own.W.istore (pc := 12) (Ls' := [_, _, _, _, _, _]) d41_12 rfl rfl ?_
    refine Own.W.iload (pc := 14) d41_14 rfl ?_
    refine Own.W.iloadN (pc := 16) d41_16 rfl ?_
    refine Own.W.ic_eq (pc := 17) 57 d41_17 (by decide) (by decide) ?_ (fun h17 => absurd h17 (fun q => q rfl))
    intro h17
    refine Own.W.aloadN (pc := 57) d41_57 rfl rfl ?_
    refine Own.W.aret (pc := 58) d41_58 rfl rfl rfl ?_ (by first | exact Nat.le_of_ble_eq_true rfl | (simp; done) | (simp; omega)) (by first | exact Nat.le_of_ble_eq_true rfl | (simp; done) | (simp; omega))
    exact ⟨_, [], rfl, by rw [own_enc_l hl, ← own_by_map]; rfl, rfl⟩
  · obtain ⟨i, hi, hb, hch⟩ := Own.first_big cs hl
    refine Own.W.aloadN (pc := 4) d41_4 rfl rfl ?_
    refine Own.W.iloadN (pc := 5) d41_5 rfl ?_
    refine Own.W.aloadN (pc := 6) d41_6 rfl rfl ?_
    refine Own.W.iconst (pc := 7) (z := (0 : Int32)) d41_7 (by decide) ?_
    refine Own.W.iloadN (pc := 8) d41_8 rfl ?_
    refine Own.W.callS (pc := 9) (ct_cmpW G hw c o1 cs i hi (by omega) hb hch hm) d41_9 (hw _ (List.mem_of_getElem? (i := 258) rfl)) (hw _ (List.mem_of_getElem? (i := 259) rfl)) (hw _ (List.mem_of_getElem? (i := 256) rfl)) (hw _ (List.mem_of_getElem? (i := 260) rfl)) (by decide) pd_79053557 rfl rfl (Nat.le_of_ble_eq_true rfl) (Nat.le_of_ble_eq_true rfl) (by first | exact Nat.le_of_ble_eq_true rfl | (simp; done) | (simp; omega)) (by first | exact Nat.le_of_ble_eq_true rfl | (simp; done) | (simp; omega)) ?_
    rintro _ _ _ ⟨rfl, us, rfl, rfl⟩
    refine Own.W.istore (pc := 12) (Ls' := [_, _, _, _, _, _]) d41_12 rfl rfl ?_
    refine Own.W.iload (pc := 14) d41_14 rfl ?_
    refine Own.W.iloadN (pc := 16) d41_16 rfl ?_
    refine Own.W.ic_eq (pc := 17) 57 d41_17 (by decide) (by decide) (fun h17 => absurd h17 (Own.n_ne (by omega) (by omega) (by omega))) ?_
    intro h17
    refine Own.W.aloadN (pc := 20) d41_20 rfl rfl ?_
    refine Own.W.iloadN (pc := 21) d41_21 rfl ?_
    refine Own.W.iloadN (pc := 22) d41_22 rfl ?_
    refine Own.W.callS (pc := 23) (ct_toB G hw hV c cs (N + N) (by omega) hN4 (hm.sub (Own.Sub.cons (Own.Sub.refl _)))) d41_23 (hw _ (List.mem_of_getElem? (i := 261) rfl)) (hw _ (List.mem_of_getElem? (i := 262) rfl)) (hw _ (List.mem_of_getElem? (i := 256) rfl)) (hw _ (List.mem_of_getElem? (i := 263) rfl)) (by decide) pd_86865603 rfl rfl (Nat.le_of_ble_eq_true rfl) (Nat.le_of_ble_eq_true rfl) (by first | exact Nat.le_of_ble_eq_true rfl | (simp; done) | (simp; omega)) (by first | exact Nat.le_of_ble_eq_true rfl | (simp; done) | (simp; omega)) ?_
    rintro _ _ _ ⟨o2, rfl, rfl, rfl⟩
    refine Own.W.astore (pc := 26) (Ls' := [_, _, _, _, _, _]) d41_26 rfl rfl rfl ?_
    refine Own.W.aload (pc := 28) d41_28 rfl rfl ?_
    refine Own.W.iload (pc := 30) d41_30 rfl ?_
    refine Own.W.callS (pc := 32) (ct_gec G hw hV o2 _ i cs[i] (by rw [List.getElem?_map, Own.u16_at0 hi]; rfl) (by rw [List.getElem?_map, Own.u16_at1 hi]; rfl) hb (h16 _ (List.getElem_mem _)) (by omega) (Own.AVin.mem (List.Mem.head _))) d41_32 (hw _ (List.mem_of_getElem? (i := 277) rfl)) (hw _ (List.mem_of_getElem? (i := 278) rfl)) (hw _ (List.mem_of_getElem? (i := 256) rfl)) (hw _ (List.mem_of_getElem? (i := 279) rfl)) (by decide) pd_7843551 rfl rfl (Nat.le_of_ble_eq_true rfl) (Nat.le_of_ble_eq_true rfl) (by first | exact Nat.le_of_ble_eq_true rfl | (simp; done) | (simp; omega)) (by first | exact Nat.le_of_ble_eq_true rfl | (simp; done) | (simp; omega)) ?_
    rintro _ _ _ ⟨r, rfl, hr, rfl, rfl⟩
    refine Own.W.sipush (pc := 35) (z := (255 : Int32)) d41_35 (by decide) ?_
    refine Own.W.ic_gt (pc := 38) 54 d41_38 (by decide) (by decide) ?_ (fun h38 => absurd h38 (fun q => q hr))
    intro h38
    refine Own.W.aload (pc := 54) d41_54 rfl rfl ?_
    refine Own.W.aret (pc := 56) d41_56 rfl rfl rfl ?_ (by first | exact Nat.le_of_ble_eq_true rfl | (simp; done) | (simp; omega)) (by first | exact Nat.le_of_ble_eq_true rfl | (simp; done) | (simp; omega))
    exact ⟨_, [_], rfl, by rw [own_enc_n hl]; rfl, rfl⟩
set_option maxRecDepth 65536 in
set_option maxHeartbeats 4000000 in
theorem ct_codT (G : Own.Gx) (hw : ∀ d ∈ tables_1, d.before G.a0 G.Z = true) {As : List Own.Ent} {Li : List Own.LitE} (b : Addr) (cs : List Int32) (hpos : 0 < cs.length) (h4 : cs.length ≤ 4000) (hm : Own.AVin G As b .byte ((own_enc cs).map Value.int)) :
    Own.Ct G [] (⟨"java/lang/StringUTF16", "coderFromArrayLen", "([BI)B"⟩ : MethodName) jdk_52_method_15_code 2 (some .byte) ({ frames := 0, cells := 0, slots := 0, locals := 0 } : Room) [.ref b, .int cs.length.toInt32] As Li (fun v A L => v = some (.int (own_cod cs)) ∧ As = A ∧ Li = L) := by
  refine Own.Ct.intro pn_92531892 (Ls := [.val (.ref b), .val (.int cs.length.toInt32)]) rfl rfl ?_
  intro K
  by_cases hl : own_lat cs
  · refine Own.W.iloadN (pc := 0) d48_0 rfl ?_
    refine Own.W.aloadN (pc := 1) d48_1 rfl rfl ?_
    refine Own.W.alen (pc := 2) d48_2 hm (z := cs.length.toInt32) (by rw [own_enc_l hl]; simp) ?_
    refine Own.W.isub (pc := 3) d48_3 (Int32.sub_self _) ?_
    refine Own.W.bipush (pc := 4) (z := (31 : Int32)) d48_4 (by decide) ?_
    refine Own.W.iushr (pc := 6) d48_6 (z := (0 : Int32)) (by decide) ?_
    refine Own.W.i2b (pc := 7) d48_7 (z := (0 : Int32)) (by decide) ?_
    refine Own.W.iret (pc := 8) d48_8 rfl (by simp) (by first | rfl | decide) ?_ (Nat.le_of_ble_eq_true rfl) (Nat.le_of_ble_eq_true rfl)
    exact ⟨by rw [own_cod_l hl], rfl, rfl⟩
  · refine Own.W.iloadN (pc := 0) d48_0 rfl ?_
    refine Own.W.aloadN (pc := 1) d48_1 rfl rfl ?_
    refine Own.W.alen (pc := 2) d48_2 hm (z := (2 * cs.length).toInt32) (by rw [own_enc_n hl, List.length_map, Own.u16_len]) ?_
    refine Own.W.isub (pc := 3) d48_3 rfl ?_
    refine Own.W.bipush (pc := 4) (z := (31 : Int32)) d48_4 (by decide) ?_
    refine Own.W.iushr (pc := 6) d48_6 (z := (1 : Int32)) (Own.cod1 hpos (by omega)) ?_
    refine Own.W.i2b (pc := 7) d48_7 (z := (1 : Int32)) (by decide) ?_
    refine Own.W.iret (pc := 8) d48_8 rfl (by simp) (by first | rfl | decide) ?_ (Nat.le_of_ble_eq_true rfl) (Nat.le_of_ble_eq_true rfl)
    exact ⟨by rw [own_cod_n hl], rfl, rfl⟩
theorem d3_27 : decode jdk_42_method_149_code 27 = .ok (.getstatic 38, 3) := by decide +kernel
theorem d3_30 : decode jdk_42_method_149_code 30 = .ok (.ifCond .eq 28, 3) := by decide +kernel
theorem d3_33 : decode jdk_42_method_149_code 33 = .ok (.aload_n 1, 1) := by decide +kernel
theorem d3_34 : decode jdk_42_method_149_code 34 = .ok (.iload_n 2, 1) := by decide +kernel
theorem d3_35 : decode jdk_42_method_149_code 35 = .ok (.iload_n 3, 1) := by decide +kernel
theorem d3_36 : decode jdk_42_method_149_code 36 = .ok (.invokestatic 177, 3) := by decide +kernel
theorem d3_39 : decode jdk_42_method_149_code 39 = .ok (.astore 5, 2) := by decide +kernel
theorem d3_41 : decode jdk_42_method_149_code 41 = .ok (.aload_n 0, 1) := by decide +kernel
theorem d3_42 : decode jdk_42_method_149_code 42 = .ok (.aload 5, 2) := by decide +kernel
theorem d3_44 : decode jdk_42_method_149_code 44 = .ok (.iload_n 3, 1) := by decide +kernel
theorem d3_45 : decode jdk_42_method_149_code 45 = .ok (.invokestatic 47, 3) := by decide +kernel
theorem pd_7843550 : parseMethodDescriptor "([BI)B" = some ⟨[(.array .byte), .int], some .byte⟩ := by decide +kernel
theorem d3_48 : decode jdk_42_method_149_code 48 = .ok (.putfield 15, 3) := by decide +kernel
theorem d3_51 : decode jdk_42_method_149_code 51 = .ok (.aload_n 0, 1) := by decide +kernel
theorem d3_52 : decode jdk_42_method_149_code 52 = .ok (.aload 5, 2) := by decide +kernel
theorem d3_54 : decode jdk_42_method_149_code 54 = .ok (.putfield 9, 3) := by decide +kernel
theorem d3_57 : decode jdk_42_method_149_code 57 = .ok (.return_, 1) := by decide +kernel
set_option maxRecDepth 65536 in
set_option maxHeartbeats 4000000 in
theorem ct_voidT (G : Own.Gx) (hw : ∀ d ∈ tables_1, d.before G.a0 G.Z = true) (hC : Own.CSt G) (hV : U16s G) {As : List Own.Ent} {Li : List Own.LitE} (s c : Addr) (cs : List Int32) (N : Nat) (hpos : 0 < cs.length) (hN : cs.length ≤ N) (hN4 : N + N ≤ 4000) (h16 : ∀ z ∈ cs, z &&& 65535 = z) (hm : Own.AVin G As c .char (cs.map Value.int)) :
    Own.Ct G [] (⟨"java/lang/String", "<init>", "([CIILjava/lang/Void;)V"⟩ : MethodName) jdk_42_method_149_code 6 none ({ frames := 4, cells := 2, slots := (N + (N + N)), locals := 57 } : Room) [.ref s, .ref c, .int 0, .int cs.length.toInt32, .null] ((s, true, Own.obj "java/lang/String" F_java_lang_String [.null, .int 0]) :: As) Li (fun v A L => ∃ b J, v = none ∧ A = (b, true, Own.arr .byte ((own_enc cs).map Value.int)) :: (J ++ (s, true, Own.obj "java/lang/String" F_java_lang_String [.ref b, .int (own_cod cs)]) :: As) ∧ Li = L) := by
  refine Own.Ct.intro pn_33051558 (Ls := [.val (.ref s), .val (.ref c), .val (.int 0), .val (.int cs.length.toInt32), .val (.null), .unset]) rfl rfl ?_
  intro K
  obtain ⟨cz, hC1, hC2⟩ := hC
  refine Own.W.aloadN (pc := 0) d3_0 rfl rfl ?_
  refine Own.W.callO (pc := 1) d3_1 (hw _ (List.mem_of_getElem? (i := 16) rfl)) (hw _ (List.mem_of_getElem? (i := 17) rfl)) (hw _ (List.mem_of_getElem? (i := 18) rfl)) (Nat.le_of_ble_eq_true rfl) (Nat.le_of_ble_eq_true rfl) ?_
  refine Own.W.iloadN (pc := 4) d3_4 rfl ?_
  refine Own.W.if_ne (pc := 5) 27 d3_5 (by decide) (by decide) ?_ (fun h5 => absurd h5 (Own.n_ne0 hpos (by omega)))
  intro h5
  refine Own.W.getS (pc := 27) (host := "") (Or.inl (hw _ (List.mem_of_getElem? (i := 77) rfl))) (Via.refl (O := "java/lang/String")) d3_27 hC1 ?_
  refine Own.W.if_eq (pc := 30) 58 d3_30 (by decide) (by decide) (fun h30 => absurd h30 hC2) ?_
  intro h30
  refine Own.W.aloadN (pc := 33) d3_33 rfl rfl ?_
  refine Own.W.iloadN (pc := 34) d3_34 rfl ?_
  refine Own.W.iloadN (pc := 35) d3_35 rfl ?_
  refine Own.W.callS (pc := 36) (ct_cmpT G hw hV c cs N hN hN4 h16 (hm.sub (Own.Sub.cons (Own.Sub.refl _)))) d3_36 (hw _ (List.mem_of_getElem? (i := 254) rfl)) (hw _ (List.mem_of_getElem? (i := 255) rfl)) (hw _ (List.mem_of_getElem? (i := 256) rfl)) (hw _ (List.mem_of_getElem? (i := 257) rfl)) (by decide) pd_86865603 rfl rfl (Nat.le_of_ble_eq_true rfl) (Nat.le_of_ble_eq_true rfl) (by first | exact Nat.le_of_ble_eq_true rfl | (simp; done) | (simp; omega)) (by first | exact Nat.le_of_ble_eq_true rfl | (simp; done) | (simp; omega)) ?_
  rintro _ _ _ ⟨b, J, rfl, rfl, rfl⟩
  refine Own.W.astore (pc := 39) (Ls' := [_, _, _, _, _, _]) d3_39 rfl rfl rfl ?_
  refine Own.W.aloadN (pc := 41) d3_41 rfl rfl ?_
  refine Own.W.aload (pc := 42) d3_42 rfl rfl ?_
  refine Own.W.iloadN (pc := 44) d3_44 rfl ?_
  refine Own.W.callS (pc := 45) (ct_codT G hw b cs hpos (by omega) (Own.AVin.mem (List.Mem.head _))) d3_45 (hw _ (List.mem_of_getElem? (i := 280) rfl)) (hw _ (List.mem_of_getElem? (i := 281) rfl)) (hw _ (List.mem_of_getElem? (i := 256) rfl)) (hw _ (List.mem_of_getElem? (i := 282) rfl)) (by decide) pd_7843550 rfl rfl (Nat.le_of_ble_eq_true rfl) (Nat.le_of_ble_eq_true rfl) (by first | exact Nat.le_of_ble_eq_true rfl | (simp; done) | (simp; omega)) (by first | exact Nat.le_of_ble_eq_true rfl | (simp; done) | (simp; omega)) ?_
  rintro _ _ _ ⟨rfl, rfl, rfl⟩
  refine Own.W.putN (pc := 48) (hw _ (List.mem_of_getElem? (i := 26) rfl)) (Via.refl (O := "java/lang/String")) d3_48 (Or.inr ⟨(hw _ (List.mem_of_getElem? (i := 22) rfl)), rfl, rfl⟩) (hw _ (List.mem_of_getElem? (i := 6) rfl)) (ty := .byte) (by decide) (own_cod_nar cs) (own_cod_fit cs) (by repeat (first | exact Own.Upd.head | exact Own.Upd.mid | apply Own.Upd.tail)) (by repeat (first | exact Own.FUp.head | apply Own.FUp.tail)) ?_
  refine Own.W.aloadN (pc := 51) d3_51 rfl rfl ?_
  refine Own.W.aload (pc := 52) d3_52 rfl rfl ?_
  refine Own.W.putF (pc := 54) (host := "") (Or.inl (hw _ (List.mem_of_getElem? (i := 25) rfl))) (Via.refl (O := "java/lang/String")) d3_54 (Or.inr ⟨(hw _ (List.mem_of_getElem? (i := 21) rfl)), rfl, rfl⟩) (hw _ (List.mem_of_getElem? (i := 6) rfl)) (ty := (.array .byte)) (by decide) rfl rfl (by repeat (first | exact Own.Upd.head | exact Own.Upd.mid | apply Own.Upd.tail)) (by repeat (first | exact Own.FUp.head | apply Own.FUp.tail)) ?_
  refine Own.W.vret (pc := 57) d3_57 rfl  ?_ (by first | exact Nat.le_of_ble_eq_true rfl | (simp; done) | (simp; omega)) (by first | exact Nat.le_of_ble_eq_true rfl | (simp; done) | (simp; omega))
  exact ⟨b, J, rfl, rfl, rfl⟩
set_option maxRecDepth 65536 in
set_option maxHeartbeats 4000000 in
theorem ct_strT (G : Own.Gx) (hw : ∀ d ∈ tables_1, d.before G.a0 G.Z = true) (hC : Own.CSt G) (hV : U16s G) {As : List Own.Ent} {Li : List Own.LitE} (s c : Addr) (cs : List Int32) (N : Nat) (hpos : 0 < cs.length) (hN : cs.length ≤ N) (hN4 : N + N ≤ 4000) (h16 : ∀ z ∈ cs, z &&& 65535 = z) (hm : Own.AVin G As c .char (cs.map Value.int)) :
    Own.Ct G [] (⟨"java/lang/String", "<init>", "([C)V"⟩ : MethodName) jdk_42_method_3_code 2 none ({ frames := 5, cells := 2, slots := (N + (N + N)), locals := 74 } : Room) [.ref s, .ref c] ((s, true, Own.obj "java/lang/String" F_java_lang_String [.null, .int 0]) :: As) Li (fun v A L => ∃ b J, v = none ∧ A = (b, true, Own.arr .byte ((own_enc cs).map Value.int)) :: (J ++ (s, true, Own.obj "java/lang/String" F_java_lang_String [.ref b, .int (own_cod cs)]) :: As) ∧ Li = L) := by
  refine Own.Ct.intro pn_55852025 (Ls := [.val (.ref s), .val (.ref c)]) rfl rfl ?_
  intro K
  refine Own.W.aloadN (pc := 0) d2_0 rfl rfl ?_
  refine Own.W.aloadN (pc := 1) d2_1 rfl rfl ?_
  refine Own.W.iconst (pc := 2) (z := (0 : Int32)) d2_2 (by decide) ?_
  refine Own.W.aloadN (pc := 3) d2_3 rfl rfl ?_
  refine Own.W.alen (pc := 4) d2_4 (hm.sub (Own.Sub.cons (Own.Sub.refl _))) (z := cs.length.toInt32) (by simp) ?_
  refine Own.W.aconstNull (pc := 5) d2_5 ?_
  refine Own.W.callI (pc := 6) (ct_voidT G hw hC hV s c cs N hpos hN hN4 h16 hm) d2_6 rfl (hw _ (List.mem_of_getElem? (i := 12) rfl)) (hw _ (List.mem_of_getElem? (i := 13) rfl)) (hw _ (List.mem_of_getElem? (i := 7) rfl)) (hw _ (List.mem_of_getElem? (i := 15) rfl)) (by decide) pd_91355479 rfl rfl (Nat.le_of_ble_eq_true rfl) (Nat.le_of_ble_eq_true rfl) (by first | exact Nat.le_of_ble_eq_true rfl | (simp; done) | (simp; omega)) (by first | exact Nat.le_of_ble_eq_true rfl | (simp; done) | (simp; omega)) ?_
  rintro _ _ _ ⟨b, J, rfl, rfl, rfl⟩
  refine Own.W.vret (pc := 9) d2_9 rfl  ?_ (by first | exact Nat.le_of_ble_eq_true rfl | (simp; done) | (simp; omega)) (by first | exact Nat.le_of_ble_eq_true rfl | (simp; done) | (simp; omega))
  exact ⟨b, J, rfl, rfl, rfl⟩
theorem d39_0 : decode jdk_29_method_65_code 0 = .ok (.iload_n 0, 1) := by decide +kernel
theorem d39_1 : decode jdk_29_method_65_code 1 = .ok (.iload_n 1, 1) := by decide +kernel
theorem d39_2 : decode jdk_29_method_65_code 2 = .ok (.if_icmp .lt 7, 3) := by decide +kernel
theorem d39_9 : decode jdk_29_method_65_code 9 = .ok (.iload_n 1, 1) := by decide +kernel
theorem d39_10 : decode jdk_29_method_65_code 10 = .ok (.ireturn, 1) := by decide +kernel
theorem d39_5 : decode jdk_29_method_65_code 5 = .ok (.iload_n 0, 1) := by decide +kernel
theorem d39_6 : decode jdk_29_method_65_code 6 = .ok (.goto 4, 3) := by decide +kernel
theorem pn_31943339 : plainFor (⟨"java/lang/Math", "max", "(II)I"⟩ : MethodName) = true := by first | exact plainFor_of_name (by first | (simp [plainName, overriddenIn]; done) | decide +kernel) | decide +kernel
set_option maxRecDepth 65536 in
set_option maxHeartbeats 4000000 in
theorem ct_max (G : Own.Gx) (hw : ∀ d ∈ tables_1, d.before G.a0 G.Z = true) {As : List Own.Ent} {Li : List Own.LitE} (a b : Nat) (ha : a < 2147483648) (hb : b < 2147483648) :
    Own.Ct G [] (⟨"java/lang/Math", "max", "(II)I"⟩ : MethodName) jdk_29_method_65_code 2 (some .int) ({ frames := 0, cells := 0, slots := 0, locals := 0 } : Room) [.int a.toInt32, .int b.toInt32] As Li (fun v A L => v = some (.int (max a b).toInt32) ∧ As = A ∧ Li = L) := by
  refine Own.Ct.intro pn_31943339 (Ls := [.val (.int a.toInt32), .val (.int b.toInt32)]) rfl rfl ?_
  intro K
  refine Own.W.iloadN (pc := 0) d39_0 rfl ?_
  refine Own.W.iloadN (pc := 1) d39_1 rfl ?_
  refine Own.W.ic_lt (pc := 2) 9 d39_2 (by decide) (by decide) ?_ ?_
  · intro h2
    refine Own.W.iloadN (pc := 9) d39_9 rfl ?_
    refine Own.W.iret (pc := 10) d39_10 rfl (by simp) rfl ?_ (Nat.le_of_ble_eq_true rfl) (Nat.le_of_ble_eq_true rfl)
    exact ⟨by rw [Own.n_max ha hb h2], rfl, rfl⟩
  · intro h2
    refine Own.W.iloadN (pc := 5) d39_5 rfl ?_
    refine Own.W.goto (pc := 6) 10 d39_6 (by decide) (by decide) ?_
    refine Own.W.iret (pc := 10) d39_10 rfl (by simp) rfl ?_ (Nat.le_of_ble_eq_true rfl) (Nat.le_of_ble_eq_true rfl)
    exact ⟨by rw [Own.n_max' ha hb h2], rfl, rfl⟩
theorem d27_0 : decode jdk_29_method_69_code 0 = .ok (.iload_n 0, 1) := by decide +kernel
theorem d27_1 : decode jdk_29_method_69_code 1 = .ok (.iload_n 1, 1) := by decide +kernel
theorem d27_2 : decode jdk_29_method_69_code 2 = .ok (.if_icmp .gt 7, 3) := by decide +kernel
theorem d27_9 : decode jdk_29_method_69_code 9 = .ok (.iload_n 1, 1) := by decide +kernel
theorem d27_10 : decode jdk_29_method_69_code 10 = .ok (.ireturn, 1) := by decide +kernel
theorem d27_5 : decode jdk_29_method_69_code 5 = .ok (.iload_n 0, 1) := by decide +kernel
theorem d27_6 : decode jdk_29_method_69_code 6 = .ok (.goto 4, 3) := by decide +kernel
theorem pn_47292969 : plainFor (⟨"java/lang/Math", "min", "(II)I"⟩ : MethodName) = true := by first | exact plainFor_of_name (by first | (simp [plainName, overriddenIn]; done) | decide +kernel) | decide +kernel
set_option maxRecDepth 65536 in
set_option maxHeartbeats 4000000 in
theorem ct_min (G : Own.Gx) (hw : ∀ d ∈ tables_1, d.before G.a0 G.Z = true) {As : List Own.Ent} {Li : List Own.LitE} (a b : Nat) (ha : a < 2147483648) (hb : b < 2147483648) :
    Own.Ct G [] (⟨"java/lang/Math", "min", "(II)I"⟩ : MethodName) jdk_29_method_69_code 2 (some .int) ({ frames := 0, cells := 0, slots := 0, locals := 0 } : Room) [.int a.toInt32, .int b.toInt32] As Li (fun v A L => v = some (.int (min a b).toInt32) ∧ As = A ∧ Li = L) := by
  refine Own.Ct.intro pn_47292969 (Ls := [.val (.int a.toInt32), .val (.int b.toInt32)]) rfl rfl ?_
  intro K
  refine Own.W.iloadN (pc := 0) d27_0 rfl ?_
  refine Own.W.iloadN (pc := 1) d27_1 rfl ?_
  refine Own.W.ic_gt (pc := 2) 9 d27_2 (by decide) (by decide) ?_ ?_
  · intro h2
    refine Own.W.iloadN (pc := 9) d27_9 rfl ?_
    refine Own.W.iret (pc := 10) d27_10 rfl (by simp) rfl ?_ (Nat.le_of_ble_eq_true rfl) (Nat.le_of_ble_eq_true rfl)
    exact ⟨by rw [Own.n_min ha hb h2], rfl, rfl⟩
  · intro h2
    refine Own.W.iloadN (pc := 5) d27_5 rfl ?_
    refine Own.W.goto (pc := 6) 10 d27_6 (by decide) (by decide) ?_
    refine Own.W.iret (pc := 10) d27_10 rfl (by simp) rfl ?_ (Nat.le_of_ble_eq_true rfl) (Nat.le_of_ble_eq_true rfl)
    exact ⟨by rw [Own.n_min' ha hb h2], rfl, rfl⟩
theorem d40_0 : decode jdk_65_method_121_code 0 = .ok (.iload_n 1, 1) := by decide +kernel
theorem d40_1 : decode jdk_65_method_121_code 1 = .ok (.aload_n 0, 1) := by decide +kernel
theorem d40_2 : decode jdk_65_method_121_code 2 = .ok (.arraylength, 1) := by decide +kernel
theorem d40_3 : decode jdk_65_method_121_code 3 = .ok (.if_icmp .ne 11, 3) := by decide +kernel
theorem d40_14 : decode jdk_65_method_121_code 14 = .ok (.iload_n 1, 1) := by decide +kernel
theorem d40_15 : decode jdk_65_method_121_code 15 = .ok (.newarray .byte, 2) := by decide +kernel
theorem d40_17 : decode jdk_65_method_121_code 17 = .ok (.astore_n 2, 1) := by decide +kernel
theorem d40_18 : decode jdk_65_method_121_code 18 = .ok (.aload_n 0, 1) := by decide +kernel
theorem d40_19 : decode jdk_65_method_121_code 19 = .ok (.iconst 0, 1) := by decide +kernel
theorem d40_20 : decode jdk_65_method_121_code 20 = .ok (.aload_n 2, 1) := by decide +kernel
theorem d40_21 : decode jdk_65_method_121_code 21 = .ok (.iconst 0, 1) := by decide +kernel
theorem d40_22 : decode jdk_65_method_121_code 22 = .ok (.aload_n 0, 1) := by decide +kernel
theorem d40_23 : decode jdk_65_method_121_code 23 = .ok (.arraylength, 1) := by decide +kernel
theorem d40_24 : decode jdk_65_method_121_code 24 = .ok (.iload_n 1, 1) := by decide +kernel
theorem d40_25 : decode jdk_65_method_121_code 25 = .ok (.invokestatic 304, 3) := by decide +kernel
theorem pd_84293393 : parseMethodDescriptor "(II)I" = some ⟨[.int, .int], some .int⟩ := by decide +kernel
theorem d40_28 : decode jdk_65_method_121_code 28 = .ok (.invokestatic 150, 3) := by decide +kernel
theorem d40_31 : decode jdk_65_method_121_code 31 = .ok (.aload_n 2, 1) := by decide +kernel
theorem d40_32 : decode jdk_65_method_121_code 32 = .ok (.areturn, 1) := by decide +kernel
theorem pn_15054465 : plainFor (⟨"java/util/Arrays", "copyOf", "([BI)[B"⟩ : MethodName) = true := by first | exact plainFor_of_name (by first | (simp [plainName, overriddenIn]; done) | decide +kernel) | decide +kernel
set_option maxRecDepth 65536 in
set_option maxHeartbeats 4000000 in
theorem ct_cpy (G : Own.Gx) (hw : ∀ d ∈ tables_1, d.before G.a0 G.Z = true) {As : List Own.Ent} {Li : List Own.LitE} (b : Addr) (vs : List Value) (n N : Nat) (hv : vs.length < n) (hn : n ≤ N) (hN : N ≤ 4000) (hm : Own.AVin G As b .byte vs) :
    Own.Ct G [] (⟨"java/util/Arrays", "copyOf", "([BI)[B"⟩ : MethodName) jdk_65_method_121_code 3 (some (.array .byte)) ({ frames := 1, cells := 1, slots := N, locals := 18 } : Room) [.ref b, .int n.toInt32] As Li (fun v A L => ∃ o, v = some (.ref o) ∧ A = (o, true, Own.arr .byte (vs ++ List.replicate (n - vs.length) (Value.int 0))) :: As ∧ Li = L) := by
  refine Own.Ct.intro pn_15054465 (Ls := [.val (.ref b), .val (.int n.toInt32), .unset]) rfl rfl ?_
  intro K
  refine Own.W.iloadN (pc := 0) d40_0 rfl ?_
  refine Own.W.aloadN (pc := 1) d40_1 rfl rfl ?_
  refine Own.W.alen (pc := 2) d40_2 hm (z := vs.length.toInt32) rfl ?_
  refine Own.W.ic_ne (pc := 3) 14 d40_3 (by decide) (by decide) ?_ (fun h3 => absurd h3 (Own.n_ne (by omega) (by omega) (by omega)))
  intro h3
  refine Own.W.iloadN (pc := 14) d40_14 rfl ?_
  refine Own.W.newP (pc := 15) N (hw _ (List.mem_of_getElem? (i := 20) rfl)) d40_15 rfl (Own.n_nn (by omega)) (by rw [Own.n_clamp (by omega)]; omega) (by omega) (vs := (List.replicate n (Value.int 0))) (by rw [Own.n_clamp (by omega)]; rfl) (Nat.le_of_ble_eq_true rfl) (by first | exact Nat.le_of_ble_eq_true rfl | (simp; done) | (simp; omega)) ?_
  intro o15
  refine Own.W.astoreN (pc := 17) (Ls' := [_, _, _]) d40_17 rfl rfl rfl ?_
  refine Own.W.aloadN (pc := 18) d40_18 rfl rfl ?_
  refine Own.W.iconst (pc := 19) (z := (0 : Int32)) d40_19 (by decide) ?_
  refine Own.W.aloadN (pc := 20) d40_20 rfl rfl ?_
  refine Own.W.iconst (pc := 21) (z := (0 : Int32)) d40_21 (by decide) ?_
  refine Own.W.aloadN (pc := 22) d40_22 rfl rfl ?_
  refine Own.W.alen (pc := 23) d40_23 (hm.sub (Own.Sub.cons (Own.Sub.refl _))) (z := vs.length.toInt32) rfl ?_
  refine Own.W.iloadN (pc := 24) d40_24 rfl ?_
  refine Own.W.callS (pc := 25) (ct_min G hw vs.length n (by omega) (by omega)) d40_25 (hw _ (List.mem_of_getElem? (i := 145) rfl)) (hw _ (List.mem_of_getElem? (i := 146) rfl)) (hw _ (List.mem_of_getElem? (i := 147) rfl)) (hw _ (List.mem_of_getElem? (i := 148) rfl)) (by decide) pd_84293393 rfl rfl (Nat.le_of_ble_eq_true rfl) (Nat.le_of_ble_eq_true rfl) (by first | exact Nat.le_of_ble_eq_true rfl | (simp; done) | (simp; omega)) (by first | exact Nat.le_of_ble_eq_true rfl | (simp; done) | (simp; omega)) ?_
  rintro _ _ _ ⟨rfl, rfl, rfl⟩
  refine Own.W.acopy (pc := 28) (us := List.replicate n (Value.int 0)) d40_28 (hw _ (List.mem_of_getElem? (i := 149) rfl)) (hw _ (List.mem_of_getElem? (i := 104) rfl)) (hw _ (List.mem_of_getElem? (i := 102) rfl)) (hw _ (List.mem_of_getElem? (i := 103) rfl)) (hm.sub (Own.Sub.cons (Own.Sub.refl _))) rfl (by decide) (by decide) (Own.n_nn (by omega)) (i := 0) rfl (j := 0) rfl (n := vs.length) (by rw [Own.n_clamp (by omega)]; omega) (by omega) (by simp; omega) (us' := vs ++ List.replicate (n - vs.length) (Value.int 0)) (by simp) (by repeat (first | exact Own.Upd.head | exact Own.Upd.mid | apply Own.Upd.tail)) (Nat.le_of_ble_eq_true rfl) (Nat.le_of_ble_eq_true rfl) ?_
  refine Own.W.aloadN (pc := 31) d40_31 rfl rfl ?_
  refine Own.W.aret (pc := 32) d40_32 rfl rfl rfl ?_ (by first | exact Nat.le_of_ble_eq_true rfl | (simp; done) | (simp; omega)) (by first | exact Nat.le_of_ble_eq_true rfl | (simp; done) | (simp; omega))
  exact ⟨_, rfl, rfl, rfl⟩
theorem d26_0 : decode jdk_65_method_131_code 0 = .ok (.iload_n 1, 1) := by decide +kernel
theorem d26_1 : decode jdk_65_method_131_code 1 = .ok (.iload_n 0, 1) := by decide +kernel
theorem d26_2 : decode jdk_65_method_131_code 2 = .ok (.if_icmp .ge 35, 3) := by decide +kernel
theorem d26_37 : decode jdk_65_method_131_code 37 = .ok (.return_, 1) := by decide +kernel
theorem pn_95794678 : plainFor (⟨"java/util/Arrays", "checkLength", "(II)V"⟩ : MethodName) = true := by first | exact plainFor_of_name (by first | (simp [plainName, overriddenIn]; done) | decide +kernel) | decide +kernel
set_option maxRecDepth 65536 in
set_option maxHeartbeats 4000000 in
theorem ct_ckl (G : Own.Gx) (hw : ∀ d ∈ tables_1, d.before G.a0 G.Z = true) {As : List Own.Ent} {Li : List Own.LitE} (a b : Nat) (h : a ≤ b) (hb : b < 2147483648) :
    Own.Ct G [] (⟨"java/util/Arrays", "checkLength", "(II)V"⟩ : MethodName) jdk_65_method_131_code 2 none ({ frames := 0, cells := 0, slots := 0, locals := 0 } : Room) [.int a.toInt32, .int b.toInt32] As Li (fun v A L => v = none ∧ As = A ∧ Li = L) := by
  refine Own.Ct.intro pn_95794678 (Ls := [.val (.int a.toInt32), .val (.int b.toInt32)]) rfl rfl ?_
  intro K
  refine Own.W.iloadN (pc := 0) d26_0 rfl ?_
  refine Own.W.iloadN (pc := 1) d26_1 rfl ?_
  refine Own.W.ic_ge (pc := 2) 37 d26_2 (by decide) (by decide) ?_ (fun h2 => absurd h2 (Own.n_nlt h hb))
  intro h2
  refine Own.W.vret (pc := 37) d26_37 rfl ?_ (Nat.le_of_ble_eq_true rfl) (Nat.le_of_ble_eq_true rfl)
  exact ⟨rfl, rfl, rfl⟩
theorem d25_0 : decode jdk_65_method_133_code 0 = .ok (.iload_n 1, 1) := by decide +kernel
theorem d25_1 : decode jdk_65_method_133_code 1 = .ok (.iload_n 2, 1) := by decide +kernel
theorem d25_2 : decode jdk_65_method_133_code 2 = .ok (.invokestatic 343, 3) := by decide +kernel
theorem pd_84293406 : parseMethodDescriptor "(II)V" = some ⟨[.int, .int], none⟩ := by decide +kernel
theorem d25_5 : decode jdk_65_method_133_code 5 = .ok (.iload_n 2, 1) := by decide +kernel
theorem d25_6 : decode jdk_65_method_133_code 6 = .ok (.iload_n 1, 1) := by decide +kernel
theorem d25_7 : decode jdk_65_method_133_code 7 = .ok (.isub, 1) := by decide +kernel
theorem d25_8 : decode jdk_65_method_133_code 8 = .ok (.istore_n 3, 1) := by decide +kernel
theorem d25_9 : decode jdk_65_method_133_code 9 = .ok (.iload_n 3, 1) := by decide +kernel
theorem d25_10 : decode jdk_65_method_133_code 10 = .ok (.newarray .byte, 2) := by decide +kernel
theorem d25_12 : decode jdk_65_method_133_code 12 = .ok (.astore 4, 2) := by decide +kernel
theorem d25_14 : decode jdk_65_method_133_code 14 = .ok (.aload_n 0, 1) := by decide +kernel
theorem d25_15 : decode jdk_65_method_133_code 15 = .ok (.iload_n 1, 1) := by decide +kernel
theorem d25_16 : decode jdk_65_method_133_code 16 = .ok (.aload 4, 2) := by decide +kernel
theorem d25_18 : decode jdk_65_method_133_code 18 = .ok (.iconst 0, 1) := by decide +kernel
theorem d25_19 : decode jdk_65_method_133_code 19 = .ok (.aload_n 0, 1) := by decide +kernel
theorem d25_20 : decode jdk_65_method_133_code 20 = .ok (.arraylength, 1) := by decide +kernel
theorem d25_21 : decode jdk_65_method_133_code 21 = .ok (.iload_n 1, 1) := by decide +kernel
theorem d25_22 : decode jdk_65_method_133_code 22 = .ok (.isub, 1) := by decide +kernel
theorem d25_23 : decode jdk_65_method_133_code 23 = .ok (.iload_n 3, 1) := by decide +kernel
theorem d25_24 : decode jdk_65_method_133_code 24 = .ok (.invokestatic 304, 3) := by decide +kernel
theorem d25_27 : decode jdk_65_method_133_code 27 = .ok (.invokestatic 150, 3) := by decide +kernel
theorem d25_30 : decode jdk_65_method_133_code 30 = .ok (.aload 4, 2) := by decide +kernel
theorem d25_32 : decode jdk_65_method_133_code 32 = .ok (.areturn, 1) := by decide +kernel
theorem pn_91036491 : plainFor (⟨"java/util/Arrays", "copyOfRangeByte", "([BII)[B"⟩ : MethodName) = true := by first | exact plainFor_of_name (by first | (simp [plainName, overriddenIn]; done) | decide +kernel) | decide +kernel
set_option maxRecDepth 65536 in
set_option maxHeartbeats 4000000 in
theorem ct_crb (G : Own.Gx) (hw : ∀ d ∈ tables_1, d.before G.a0 G.Z = true) {As : List Own.Ent} {Li : List Own.LitE} (b : Addr) (vs : List Value) (n N : Nat) (hv : n < vs.length) (hv31 : vs.length < 2147483648) (hn : n ≤ N) (hN : N ≤ 4000) (hm : Own.AVin G As b .byte vs) :
    Own.Ct G [] (⟨"java/util/Arrays", "copyOfRangeByte", "([BII)[B"⟩ : MethodName) jdk_65_method_133_code 5 (some (.array .byte)) ({ frames := 1, cells := 1, slots := N, locals := 18 } : Room) [.ref b, .int 0, .int n.toInt32] As Li (fun v A L => ∃ o, v = some (.ref o) ∧ A = (o, true, Own.arr .byte (vs.take n)) :: As ∧ Li = L) := by
  refine Own.Ct.intro pn_91036491 (Ls := [.val (.ref b), .val (.int 0), .val (.int n.toInt32), .unset, .unset]) rfl rfl ?_
  intro K
  refine Own.W.iloadN (pc := 0) d25_0 rfl ?_
  refine Own.W.iloadN (pc := 1) d25_1 rfl ?_
  refine Own.W.callS (pc := 2) (ct_ckl G hw 0 n (by omega) (by omega)) d25_2 (hw _ (List.mem_of_getElem? (i := 142) rfl)) (hw _ (List.mem_of_getElem? (i := 143) rfl)) (hw _ (List.mem_of_getElem? (i := 137) rfl)) (hw _ (List.mem_of_getElem? (i := 144) rfl)) (by decide) pd_84293406 rfl rfl (Nat.le_of_ble_eq_true rfl) (Nat.le_of_ble_eq_true rfl) (by first | exact Nat.le_of_ble_eq_true rfl | (simp; done) | (simp; omega)) (by first | exact Nat.le_of_ble_eq_true rfl | (simp; done) | (simp; omega)) ?_
  rintro _ _ _ ⟨rfl, rfl, rfl⟩
  refine Own.W.iloadN (pc := 5) d25_5 rfl ?_
  refine Own.W.iloadN (pc := 6) d25_6 rfl ?_
  refine Own.W.isub (pc := 7) d25_7 (z := n.toInt32) (Int32.sub_zero _) ?_
  refine Own.W.istoreN (pc := 8) (Ls' := [_, _, _, _, _]) d25_8 rfl rfl ?_
  refine Own.W.iloadN (pc := 9) d25_9 rfl ?_
  refine Own.W.newP (pc := 10) N (hw _ (List.mem_of_getElem? (i := 20) rfl)) d25_10 rfl (Own.n_nn (by omega)) (by rw [Own.n_clamp (by omega)]; omega) (by omega) (vs := (List.replicate n (Value.int 0))) (by rw [Own.n_clamp (by omega)]; rfl) (Nat.le_of_ble_eq_true rfl) (by first | exact Nat.le_of_ble_eq_true rfl | (simp; done) | (simp; omega)) ?_
  intro o10
  refine Own.W.astore (pc := 12) (Ls' := [_, _, _, _, _]) d25_12 rfl rfl rfl ?_
  refine Own.W.aloadN (pc := 14) d25_14 rfl rfl ?_
  refine Own.W.iloadN (pc := 15) d25_15 rfl ?_
  refine Own.W.aload (pc := 16) d25_16 rfl rfl ?_
  refine Own.W.iconst (pc := 18) (z := (0 : Int32)) d25_18 (by decide) ?_
  refine Own.W.aloadN (pc := 19) d25_19 rfl rfl ?_
  refine Own.W.alen (pc := 20) d25_20 (hm.sub (Own.Sub.cons (Own.Sub.refl _))) (z := vs.length.toInt32) rfl ?_
  refine Own.W.iloadN (pc := 21) d25_21 rfl ?_
  refine Own.W.isub (pc := 22) d25_22 (z := vs.length.toInt32) (Int32.sub_zero _) ?_
  refine Own.W.iloadN (pc := 23) d25_23 rfl ?_
  refine Own.W.callS (pc := 24) (ct_min G hw vs.length n (by omega) (by omega)) d25_24 (hw _ (List.mem_of_getElem? (i := 145) rfl)) (hw _ (List.mem_of_getElem? (i := 146) rfl)) (hw _ (List.mem_of_getElem? (i := 147) rfl)) (hw _ (List.mem_of_getElem? (i := 148) rfl)) (by decide) pd_84293393 rfl rfl (Nat.le_of_ble_eq_true rfl) (Nat.le_of_ble_eq_true rfl) (by first | exact Nat.le_of_ble_eq_true rfl | (simp; done) | (simp; omega)) (by first | exact Nat.le_of_ble_eq_true rfl | (simp; done) | (simp; omega)) ?_
  rintro _ _ _ ⟨rfl, rfl, rfl⟩
  refine Own.W.acopy (pc := 27) (us := List.replicate n (Value.int 0)) d25_27 (hw _ (List.mem_of_getElem? (i := 149) rfl)) (hw _ (List.mem_of_getElem? (i := 104) rfl)) (hw _ (List.mem_of_getElem? (i := 102) rfl)) (hw _ (List.mem_of_getElem? (i := 103) rfl)) (hm.sub (Own.Sub.cons (Own.Sub.refl _))) rfl (by decide) (by decide) (Own.n_nn (by omega)) (i := 0) rfl (j := 0) rfl (n := n) (by rw [Own.n_clamp (by omega)]; omega) (by omega) (by simp) (us' := vs.take n) (by simp) (by repeat (first | exact Own.Upd.head | exact Own.Upd.mid | apply Own.Upd.tail)) (Nat.le_of_ble_eq_true rfl) (Nat.le_of_ble_eq_true rfl) ?_
  refine Own.W.aload (pc := 30) d25_30 rfl rfl ?_
  refine Own.W.aret (pc := 32) d25_32 rfl rfl rfl ?_ (by first | exact Nat.le_of_ble_eq_true rfl | (simp; done) | (simp; omega)) (by first | exact Nat.le_of_ble_eq_true rfl | (simp; done) | (simp; omega))
  exact ⟨_, rfl, rfl, rfl⟩
theorem d24_0 : decode jdk_65_method_132_code 0 = .ok (.iload_n 1, 1) := by decide +kernel
theorem d24_1 : decode jdk_65_method_132_code 1 = .ok (.ifCond .ne 9, 3) := by decide +kernel
theorem d24_4 : decode jdk_65_method_132_code 4 = .ok (.iload_n 2, 1) := by decide +kernel
theorem d24_5 : decode jdk_65_method_132_code 5 = .ok (.aload_n 0, 1) := by decide +kernel
theorem d24_6 : decode jdk_65_method_132_code 6 = .ok (.arraylength, 1) := by decide +kernel
theorem d24_7 : decode jdk_65_method_132_code 7 = .ok (.if_icmp .eq 10, 3) := by decide +kernel
theorem d24_17 : decode jdk_65_method_132_code 17 = .ok (.aload_n 0, 1) := by decide +kernel
theorem d24_18 : decode jdk_65_method_132_code 18 = .ok (.invokevirtual 310, 3) := by decide +kernel
theorem d24_21 : decode jdk_65_method_132_code 21 = .ok (.checkcast 311, 3) := by decide +kernel
theorem d24_24 : decode jdk_65_method_132_code 24 = .ok (.areturn, 1) := by decide +kernel
theorem d24_10 : decode jdk_65_method_132_code 10 = .ok (.aload_n 0, 1) := by decide +kernel
theorem d24_11 : decode jdk_65_method_132_code 11 = .ok (.iload_n 1, 1) := by decide +kernel
theorem d24_12 : decode jdk_65_method_132_code 12 = .ok (.iload_n 2, 1) := by decide +kernel
theorem d24_13 : decode jdk_65_method_132_code 13 = .ok (.invokestatic 339, 3) := by decide +kernel
theorem pd_47730210 : parseMethodDescriptor "([BII)[B" = some ⟨[(.array .byte), .int, .int], some (.array .byte)⟩ := by decide +kernel
theorem d24_16 : decode jdk_65_method_132_code 16 = .ok (.areturn, 1) := by decide +kernel
theorem pn_89026999 : plainFor (⟨"java/util/Arrays", "copyOfRange", "([BII)[B"⟩ : MethodName) = true := by first | exact plainFor_of_name (by first | (simp [plainName, overriddenIn]; done) | decide +kernel) | decide +kernel
set_option maxRecDepth 65536 in
set_option maxHeartbeats 4000000 in
theorem ct_cor (G : Own.Gx) (hw : ∀ d ∈ tables_1, d.before G.a0 G.Z = true) {As : List Own.Ent} {Li : List Own.LitE} (b : Addr) (vs : List Value) (n N : Nat) (hv : n ≤ vs.length) (hv31 : vs.length < 2147483648) (hn : n ≤ N) (hN : N ≤ 4000) (hm : (b, true, Own.arr .byte vs) ∈ As) :
    Own.Ct G [] (⟨"java/util/Arrays", "copyOfRange", "([BII)[B"⟩ : MethodName) jdk_65_method_132_code 3 (some (.array .byte)) ({ frames := 2, cells := 1, slots := N, locals := 34 } : Room) [.ref b, .int 0, .int n.toInt32] As Li (fun v A L => ∃ o, v = some (.ref o) ∧ A = (o, true, Own.arr .byte (vs.take n)) :: As ∧ Li = L) := by
  refine Own.Ct.intro pn_89026999 (Ls := [.val (.ref b), .val (.int 0), .val (.int n.toInt32)]) rfl rfl ?_
  intro K
  refine Own.W.iloadN (pc := 0) d24_0 rfl ?_
  refine Own.W.if_ne (pc := 1) 10 d24_1 (by decide) (by decide) (fun h1 => absurd h1 (fun q => q rfl)) ?_
  intro h1
  refine Own.W.iloadN (pc := 4) d24_4 rfl ?_
  refine Own.W.aloadN (pc := 5) d24_5 rfl rfl ?_
  refine Own.W.alen (pc := 6) d24_6 (Own.AVin.mem hm) (z := vs.length.toInt32) rfl ?_
  by_cases hnl : n = vs.length
  · subst hnl
    refine Own.W.ic_eq (pc := 7) 17 d24_7 (by decide) (by decide) ?_ (fun h7 => absurd h7 (fun q => q rfl))
    intro h7
    refine Own.W.aloadN (pc := 17) d24_17 rfl rfl ?_
    refine Own.W.cloneB (pc := 18) N d24_18 (hw _ (List.mem_of_getElem? (i := 311) rfl)) (hw _ (List.mem_of_getElem? (i := 312) rfl)) (hw _ (List.mem_of_getElem? (i := 316) rfl)) (hw _ (List.mem_of_getElem? (i := 314) rfl)) (hw _ (List.mem_of_getElem? (i := 315) rfl)) (hw _ (List.mem_of_getElem? (i := 317) rfl)) hm (by omega) (Nat.le_of_ble_eq_true rfl) (Nat.le_of_ble_eq_true rfl) (Nat.le_of_ble_eq_true rfl) (by first | exact Nat.le_of_ble_eq_true rfl | (simp; done) | (simp; omega)) ?_
    intro o
    refine Own.W.castB (D := "[B") (pc := 21) (hw _ (List.mem_of_getElem? (i := 318) rfl)) d24_21 (List.Mem.head _) ?_
    refine Own.W.aret (pc := 24) d24_24 rfl rfl rfl ?_ (by first | exact Nat.le_of_ble_eq_true rfl | (simp; done) | (simp; omega)) (by first | exact Nat.le_of_ble_eq_true rfl | (simp; done) | (simp; omega))
    exact ⟨o, rfl, by rw [List.take_length], rfl⟩
  · refine Own.W.ic_eq (pc := 7) 17 d24_7 (by decide) (by decide) (fun h7 => absurd h7 (Own.n_ne (by omega) (by omega) (by omega))) ?_
    intro h7
    refine Own.W.aloadN (pc := 10) d24_10 rfl rfl ?_
    refine Own.W.iloadN (pc := 11) d24_11 rfl ?_
    refine Own.W.iloadN (pc := 12) d24_12 rfl ?_
    refine Own.W.callS (pc := 13) (ct_crb G hw b vs n N (by omega) hv31 hn hN (Own.AVin.mem hm)) d24_13 (hw _ (List.mem_of_getElem? (i := 139) rfl)) (hw _ (List.mem_of_getElem? (i := 140) rfl)) (hw _ (List.mem_of_getElem? (i := 137) rfl)) (hw _ (List.mem_of_getElem? (i := 141) rfl)) (by decide) pd_47730210 rfl rfl (Nat.le_of_ble_eq_true rfl) (Nat.le_of_ble_eq_true rfl) (by first | exact Nat.le_of_ble_eq_true rfl | (simp; done) | (simp; omega)) (by first | exact Nat.le_of_ble_eq_true rfl | (simp; done) | (simp; omega)) ?_
    rintro _ _ _ ⟨o, rfl, rfl, rfl⟩
    refine Own.W.aret (pc := 16) d24_16 rfl rfl rfl ?_ (by first | exact Nat.le_of_ble_eq_true rfl | (simp; done) | (simp; omega)) (by first | exact Nat.le_of_ble_eq_true rfl | (simp; done) | (simp; omega))
    exact ⟨_, rfl, rfl, rfl⟩
theorem d12_0 : decode jdk_42_method_152_code 0 = .ok (.getstatic 38, 3) := by decide +kernel
theorem d12_3 : decode jdk_42_method_152_code 3 = .ok (.ifCond .eq 10, 3) := by decide +kernel
theorem d12_6 : decode jdk_42_method_152_code 6 = .ok (.aload_n 0, 1) := by decide +kernel
theorem d12_7 : decode jdk_42_method_152_code 7 = .ok (.getfield 15, 3) := by decide +kernel
theorem d12_10 : decode jdk_42_method_152_code 10 = .ok (.goto 4, 3) := by decide +kernel
theorem d12_14 : decode jdk_42_method_152_code 14 = .ok (.ireturn, 1) := by decide +kernel
theorem pn_39421446 : plainFor (⟨"java/lang/String", "coder", "()B"⟩ : MethodName) = true := by first | exact plainFor_of_name (by first | (simp [plainName, overriddenIn]; done) | decide +kernel) | decide +kernel
set_option maxRecDepth 65536 in
set_option maxHeartbeats 4000000 in
theorem ct_coder (G : Own.Gx) (hw : ∀ d ∈ tables_1, d.before G.a0 G.Z = true) (hC : Own.CSt G) {As : List Own.Ent} {Li : List Own.LitE} (a : Addr) (vs : List Value) (z : Int32) (hz : narrow .byte (.int z) = .int z) (ha : Own.StrIn G As a vs z) :
    Own.Ct G [] (⟨"java/lang/String", "coder", "()B"⟩ : MethodName) jdk_42_method_152_code 1 (some .byte) ({ frames := 0, cells := 0, slots := 0, locals := 0 } : Room) [.ref a] As Li (fun v A L => v = some (.int z) ∧ As = A ∧ Li = L) := by
  refine Own.Ct.intro pn_39421446 (Ls := [.val (.ref a)]) rfl rfl ?_
  intro K
  obtain ⟨cz, hC1, hC2⟩ := hC
  obtain ⟨ab, a1, a2, a3, a4⟩ := ha
  refine Own.W.getS (pc := 0) (host := "") (Or.inl (hw _ (List.mem_of_getElem? (i := 77) rfl))) (Via.refl (O := "java/lang/String")) d12_0 hC1 ?_
  refine Own.W.if_eq (pc := 3) 13 d12_3 (by decide) (by decide) (fun h3 => absurd h3 hC2) ?_
  intro h3
  refine Own.W.aloadN (pc := 6) d12_6 rfl rfl ?_
  refine Own.W.getI (pc := 7) (host := "") (Or.inl (hw _ (List.mem_of_getElem? (i := 26) rfl))) (Via.refl (O := "java/lang/String")) d12_7 a3 ?_
  refine Own.W.goto (pc := 10) 14 d12_10 (by decide) (by decide) ?_
  refine Own.W.iret (pc := 14) d12_14 rfl (by simp) hz ?_ (Nat.le_of_ble_eq_true rfl) (Nat.le_of_ble_eq_true rfl)
  exact ⟨rfl, rfl, rfl⟩
theorem d11_0 : decode jdk_42_method_54_code 0 = .ok (.aload_n 0, 1) := by decide +kernel
theorem d11_1 : decode jdk_42_method_54_code 1 = .ok (.getfield 9, 3) := by decide +kernel
theorem d11_4 : decode jdk_42_method_54_code 4 = .ok (.arraylength, 1) := by decide +kernel
theorem d11_5 : decode jdk_42_method_54_code 5 = .ok (.aload_n 0, 1) := by decide +kernel
theorem d11_6 : decode jdk_42_method_54_code 6 = .ok (.invokevirtual 335, 3) := by decide +kernel
theorem pd_93421976 : parseMethodDescriptor "()B" = some ⟨[], some .byte⟩ := by decide +kernel
theorem d11_9 : decode jdk_42_method_54_code 9 = .ok (.ishr, 1) := by decide +kernel
theorem d11_10 : decode jdk_42_method_54_code 10 = .ok (.ireturn, 1) := by decide +kernel
theorem pn_17394242 : plainFor (⟨"java/lang/String", "length", "()I"⟩ : MethodName) = true := by first | exact plainFor_of_name (by first | (simp [plainName, overriddenIn]; done) | decide +kernel) | decide +kernel
set_option maxRecDepth 65536 in
set_option maxHeartbeats 4000000 in
theorem ct_slen (G : Own.Gx) (hw : ∀ d ∈ tables_1, d.before G.a0 G.Z = true) (hC : Own.CSt G) {As : List Own.Ent} {Li : List Own.LitE} (a : Addr) (vs : List Value) (n : Int32) (ha : Own.StrIn G As a vs 0) (hn : vs.length.toInt32 = n) :
    Own.Ct G [] (⟨"java/lang/String", "length", "()I"⟩ : MethodName) jdk_42_method_54_code 1 (some .int) ({ frames := 1, cells := 0, slots := 0, locals := 13 } : Room) [.ref a] As Li (fun v A L => v = some (.int n) ∧ As = A ∧ Li = L) := by
  refine Own.Ct.intro pn_17394242 (Ls := [.val (.ref a)]) rfl rfl ?_
  intro K
  obtain ⟨ab, a1, a2, a3, a4⟩ := id ha
  refine Own.W.aloadN (pc := 0) d11_0 rfl rfl ?_
  refine Own.W.getI (pc := 1) (host := "") (Or.inl (hw _ (List.mem_of_getElem? (i := 25) rfl))) (Via.refl (O := "java/lang/String")) d11_1 a2 ?_
  refine Own.W.alen (pc := 4) d11_4 a4 hn ?_
  refine Own.W.aloadN (pc := 5) d11_5 rfl rfl ?_
  refine Own.W.callV (pc := 6) (ct_coder G hw hC a vs 0 rfl ha) d11_6 (C := "java/lang/String") ha.is (hw _ (List.mem_of_getElem? (i := 72) rfl)) (hw _ (List.mem_of_getElem? (i := 73) rfl)) (Own.nf_sel (hw _ (List.mem_of_getElem? (i := 75) rfl))) (hw _ (List.mem_of_getElem? (i := 75) rfl)) (hw _ (List.mem_of_getElem? (i := 74) rfl)) (hw _ (List.mem_of_getElem? (i := 7) rfl)) (hw _ (List.mem_of_getElem? (i := 76) rfl)) (by decide) pd_93421976 rfl rfl (Nat.le_of_ble_eq_true rfl) (Nat.le_of_ble_eq_true rfl) (Nat.le_of_ble_eq_true rfl) (Nat.le_of_ble_eq_true rfl) ?_
  rintro _ _ _ ⟨rfl, rfl, rfl⟩
  refine Own.W.ishr (pc := 9) d11_9 (z := n) (by rw [show ((0 : Int32) &&& 31) = 0 from by decide]; exact Own.shr0 n) ?_
  refine Own.W.iret (pc := 10) d11_10 rfl (by simp) rfl ?_ (Nat.le_of_ble_eq_true rfl) (Nat.le_of_ble_eq_true rfl)
  exact ⟨rfl, rfl, rfl⟩
theorem d8_0 : decode jdk_68_method_2_code 0 = .ok (.aload_n 0, 1) := by decide +kernel
theorem d8_1 : decode jdk_68_method_2_code 1 = .ok (.invokespecial 3, 3) := by decide +kernel
theorem d8_4 : decode jdk_68_method_2_code 4 = .ok (.getstatic 18, 3) := by decide +kernel
theorem d8_7 : decode jdk_68_method_2_code 7 = .ok (.ifCond .eq 18, 3) := by decide +kernel
theorem d8_10 : decode jdk_68_method_2_code 10 = .ok (.aload_n 0, 1) := by decide +kernel
theorem d8_11 : decode jdk_68_method_2_code 11 = .ok (.iload_n 1, 1) := by decide +kernel
theorem d8_12 : decode jdk_68_method_2_code 12 = .ok (.newarray .byte, 2) := by decide +kernel
theorem d8_14 : decode jdk_68_method_2_code 14 = .ok (.putfield 15, 3) := by decide +kernel
theorem d8_17 : decode jdk_68_method_2_code 17 = .ok (.aload_n 0, 1) := by decide +kernel
theorem d8_18 : decode jdk_68_method_2_code 18 = .ok (.iconst 0, 1) := by decide +kernel
theorem d8_19 : decode jdk_68_method_2_code 19 = .ok (.putfield 22, 3) := by decide +kernel
theorem d8_22 : decode jdk_68_method_2_code 22 = .ok (.goto 16, 3) := by decide +kernel
theorem d8_38 : decode jdk_68_method_2_code 38 = .ok (.return_, 1) := by decide +kernel
theorem pn_97596319 : plainFor (⟨"java/lang/AbstractStringBuilder", "<init>", "(I)V"⟩ : MethodName) = true := by first | exact plainFor_of_name (by first | (simp [plainName, overriddenIn]; done) | decide +kernel) | decide +kernel
set_option maxRecDepth 65536 in
set_option maxHeartbeats 4000000 in
theorem ct_asbi (G : Own.Gx) (hw : ∀ d ∈ tables_1, d.before G.a0 G.Z = true) (hC : Own.CSt G) {As : List Own.Ent} {Li : List Own.LitE} (o : Addr) :
    Own.Ct G [] (⟨"java/lang/AbstractStringBuilder", "<init>", "(I)V"⟩ : MethodName) jdk_68_method_2_code 2 none ({ frames := 1, cells := 1, slots := 16, locals := 12 } : Room) [.ref o, .int 16] ((o, true, Own.obj "java/lang/StringBuilder" F_java_lang_StringBuilder [.null, .int 0, .int 0, .int 0]) :: As) Li (fun v A L => ∃ b, v = none ∧ A = (o, true, Own.obj "java/lang/StringBuilder" F_java_lang_StringBuilder [.ref b, .int 0, .int ([] : List Int32).length.toInt32, .int 0]) :: (b, true, Own.arr .byte (Own.pad [] 16)) :: As ∧ Li = L) := by
  refine Own.Ct.intro pn_97596319 (Ls := [.val (.ref o), .val (.int 16)]) rfl rfl ?_
  intro K
  obtain ⟨cz, hC1, hC2⟩ := hC
  refine Own.W.aloadN (pc := 0) d8_0 rfl rfl ?_
  refine Own.W.callO (pc := 1) d8_1 (hw _ (List.mem_of_getElem? (i := 50) rfl)) (hw _ (List.mem_of_getElem? (i := 17) rfl)) (hw _ (List.mem_of_getElem? (i := 18) rfl)) (Nat.le_of_ble_eq_true rfl) (Nat.le_of_ble_eq_true rfl) ?_
  refine Own.W.getS (pc := 4) (host := "") (Or.inl (hw _ (List.mem_of_getElem? (i := 51) rfl))) (Via.refl (O := "java/lang/String")) d8_4 hC1 ?_
  refine Own.W.if_eq (pc := 7) 25 d8_7 (by decide) (by decide) (fun h7 => absurd h7 hC2) ?_
  intro h7
  refine Own.W.aloadN (pc := 10) d8_10 rfl rfl ?_
  refine Own.W.iloadN (pc := 11) d8_11 rfl ?_
  refine Own.W.newP (pc := 12) 16 (hw _ (List.mem_of_getElem? (i := 20) rfl)) d8_12 rfl (by decide) (Nat.le_of_ble_eq_true rfl) (by decide) (vs := (List.replicate 16 (Value.int 0))) rfl (Nat.le_of_ble_eq_true rfl) (Nat.le_of_ble_eq_true rfl) ?_
  intro o12
  refine Own.W.putF (pc := 14) (host := "") (Or.inl (hw _ (List.mem_of_getElem? (i := 52) rfl))) (Via.refl (O := "java/lang/AbstractStringBuilder")) d8_14 (Or.inl (hw _ (List.mem_of_getElem? (i := 53) rfl))) (hw _ (List.mem_of_getElem? (i := 39) rfl)) (ty := (.array .byte)) (by decide) rfl rfl (by repeat (first | exact Own.Upd.head | exact Own.Upd.mid | apply Own.Upd.tail)) (by repeat (first | exact Own.FUp.head | apply Own.FUp.tail)) ?_
  refine Own.W.aloadN (pc := 17) d8_17 rfl rfl ?_
  refine Own.W.iconst (pc := 18) (z := (0 : Int32)) d8_18 (by decide) ?_
  refine Own.W.putN (pc := 19) (hw _ (List.mem_of_getElem? (i := 54) rfl)) (Via.refl (O := "java/lang/AbstractStringBuilder")) d8_19 (Or.inl (hw _ (List.mem_of_getElem? (i := 55) rfl))) (hw _ (List.mem_of_getElem? (i := 39) rfl)) (ty := .byte) (by decide) rfl (by first | rfl | decide) (by repeat (first | exact Own.Upd.head | exact Own.Upd.mid | apply Own.Upd.tail)) (by repeat (first | exact Own.FUp.head | apply Own.FUp.tail)) ?_
  refine Own.W.goto (pc := 22) 38 d8_22 (by decide) (by decide) ?_
  refine Own.W.perm ?_ (List.Perm.swap _ _ _)
  refine Own.W.vret (pc := 38) d8_38 rfl  ?_ (Nat.le_of_ble_eq_true rfl) (Nat.le_of_ble_eq_true rfl)
  exact ⟨_, rfl, rfl, rfl⟩
theorem d7_0 : decode jdk_67_method_1_code 0 = .ok (.aload_n 0, 1) := by decide +kernel
theorem d7_1 : decode jdk_67_method_1_code 1 = .ok (.bipush 16, 2) := by decide +kernel
theorem d7_3 : decode jdk_67_method_1_code 3 = .ok (.invokespecial 1, 3) := by decide +kernel
theorem pd_87992021 : parseMethodDescriptor "(I)V" = some ⟨[.int], none⟩ := by decide +kernel
theorem d7_6 : decode jdk_67_method_1_code 6 = .ok (.return_, 1) := by decide +kernel
theorem pn_53695586 : plainFor (⟨"java/lang/StringBuilder", "<init>", "()V"⟩ : MethodName) = true := by first | exact plainFor_of_name (by first | (simp [plainName, overriddenIn]; done) | decide +kernel) | decide +kernel
set_option maxRecDepth 65536 in
set_option maxHeartbeats 4000000 in
theorem ct_sbi (G : Own.Gx) (hw : ∀ d ∈ tables_1, d.before G.a0 G.Z = true) (hC : Own.CSt G) {As : List Own.Ent} {Li : List Own.LitE} (o : Addr) :
    Own.Ct G [] (⟨"java/lang/StringBuilder", "<init>", "()V"⟩ : MethodName) jdk_67_method_1_code 1 none ({ frames := 2, cells := 1, slots := 16, locals := 25 } : Room) [.ref o] ((o, true, Own.obj "java/lang/StringBuilder" F_java_lang_StringBuilder [.null, .int 0, .int 0, .int 0]) :: As) Li (fun v A L => ∃ b, v = none ∧ A = (o, true, Own.obj "java/lang/StringBuilder" F_java_lang_StringBuilder [.ref b, .int 0, .int ([] : List Int32).length.toInt32, .int 0]) :: (b, true, Own.arr .byte (Own.pad [] 16)) :: As ∧ Li = L) := by
  refine Own.Ct.intro pn_53695586 (Ls := [.val (.ref o)]) rfl rfl ?_
  intro K
  refine Own.W.aloadN (pc := 0) d7_0 rfl rfl ?_
  refine Own.W.bipush (pc := 1) (z := (16 : Int32)) d7_1 (by decide) ?_
  refine Own.W.callI (pc := 3) (ct_asbi G hw hC o) d7_3 rfl (hw _ (List.mem_of_getElem? (i := 44) rfl)) (hw _ (List.mem_of_getElem? (i := 45) rfl)) (hw _ (List.mem_of_getElem? (i := 48) rfl)) (hw _ (List.mem_of_getElem? (i := 49) rfl)) (by decide) pd_87992021 rfl rfl (Nat.le_of_ble_eq_true rfl) (Nat.le_of_ble_eq_true rfl) (Nat.le_of_ble_eq_true rfl) (Nat.le_of_ble_eq_true rfl) ?_
  rintro _ _ _ ⟨b, rfl, rfl, rfl⟩
  refine Own.W.vret (pc := 6) d7_6 rfl  ?_ (Nat.le_of_ble_eq_true rfl) (Nat.le_of_ble_eq_true rfl)
  exact ⟨_, rfl, rfl, rfl⟩
theorem d38_0 : decode jdk_48_method_27_code 0 = .ok (.iload_n 0, 1) := by decide +kernel
theorem d38_1 : decode jdk_48_method_27_code 1 = .ok (.iload_n 1, 1) := by decide +kernel
theorem d38_2 : decode jdk_48_method_27_code 2 = .ok (.iload_n 2, 1) := by decide +kernel
theorem d38_3 : decode jdk_48_method_27_code 3 = .ok (.invokestatic 194, 3) := by decide +kernel
theorem d38_6 : decode jdk_48_method_27_code 6 = .ok (.iadd, 1) := by decide +kernel
theorem d38_7 : decode jdk_48_method_27_code 7 = .ok (.istore_n 3, 1) := by decide +kernel
theorem d38_8 : decode jdk_48_method_27_code 8 = .ok (.iconst 0, 1) := by decide +kernel
theorem d38_9 : decode jdk_48_method_27_code 9 = .ok (.iload_n 3, 1) := by decide +kernel
theorem d38_10 : decode jdk_48_method_27_code 10 = .ok (.if_icmp .ge 11, 3) := by decide +kernel
theorem d38_13 : decode jdk_48_method_27_code 13 = .ok (.iload_n 3, 1) := by decide +kernel
theorem d38_14 : decode jdk_48_method_27_code 14 = .ok (.ldc 200, 2) := by decide +kernel
theorem d38_16 : decode jdk_48_method_27_code 16 = .ok (.if_icmp .gt 5, 3) := by decide +kernel
theorem d38_19 : decode jdk_48_method_27_code 19 = .ok (.iload_n 3, 1) := by decide +kernel
theorem d38_20 : decode jdk_48_method_27_code 20 = .ok (.ireturn, 1) := by decide +kernel
theorem pn_9506430 : plainFor (⟨"jdk/internal/util/ArraysSupport", "newLength", "(III)I"⟩ : MethodName) = true := by first | exact plainFor_of_name (by first | (simp [plainName, overriddenIn]; done) | decide +kernel) | decide +kernel
set_option maxRecDepth 65536 in
set_option maxHeartbeats 4000000 in
theorem ct_nln (G : Own.Gx) (hw : ∀ d ∈ tables_1, d.before G.a0 G.Z = true) {As : List Own.Ent} {Li : List Own.LitE} (p q r : Nat) (h0 : 0 < p + max q r) (hb : p + max q r ≤ 100000) :
    Own.Ct G [] (⟨"jdk/internal/util/ArraysSupport", "newLength", "(III)I"⟩ : MethodName) jdk_48_method_27_code 4 (some .int) ({ frames := 1, cells := 0, slots := 0, locals := 14 } : Room) [.int p.toInt32, .int q.toInt32, .int r.toInt32] As Li (fun v A L => v = some (.int (p + max q r).toInt32) ∧ As = A ∧ Li = L) := by
  refine Own.Ct.intro pn_9506430 (Ls := [.val (.int p.toInt32), .val (.int q.toInt32), .val (.int r.toInt32), .unset]) rfl rfl ?_
  intro K
  refine Own.W.iloadN (pc := 0) d38_0 rfl ?_
  refine Own.W.iloadN (pc := 1) d38_1 rfl ?_
  refine Own.W.iloadN (pc := 2) d38_2 rfl ?_
  refine Own.W.callS (pc := 3) (ct_max G hw q r (by omega) (by omega)) d38_3 (hw _ (List.mem_of_getElem? (i := 245) rfl)) (hw _ (List.mem_of_getElem? (i := 246) rfl)) (hw _ (List.mem_of_getElem? (i := 147) rfl)) (hw _ (List.mem_of_getElem? (i := 247) rfl)) (by decide) pd_84293393 rfl rfl (Nat.le_of_ble_eq_true rfl) (Nat.le_of_ble_eq_true rfl) (Nat.le_of_ble_eq_true rfl) (Nat.le_of_ble_eq_true rfl) ?_
  rintro _ _ _ ⟨rfl, rfl, rfl⟩
  refine Own.W.iadd (pc := 6) d38_6 (z := (p + max q r).toInt32) (Own.n_add _ _) ?_
  refine Own.W.istoreN (pc := 7) (Ls' := [_, _, _, _]) d38_7 rfl rfl ?_
  refine Own.W.iconst (pc := 8) (z := (0 : Int32)) d38_8 (by decide) ?_
  refine Own.W.iloadN (pc := 9) d38_9 rfl ?_
  refine Own.W.ic_ge (pc := 10) 21 d38_10 (by decide) (by decide) (fun h10 => absurd h10 (fun q => q (Own.n_pos h0 (by omega)))) ?_
  intro h10
  refine Own.W.iloadN (pc := 13) d38_13 rfl ?_
  refine Own.W.ldcI (pc := 14) (z := 2147483639) (hw _ (List.mem_of_getElem? (i := 248) rfl)) d38_14 ?_
  refine Own.W.ic_gt (pc := 16) 21 d38_16 (by decide) (by decide) (fun h16 => absurd h16 (Own.n_nlt (a := 2147483639) (by omega) (by decide))) ?_
  intro h16
  refine Own.W.iloadN (pc := 19) d38_19 rfl ?_
  refine Own.W.iret (pc := 20) d38_20 rfl (by simp) rfl ?_ (Nat.le_of_ble_eq_true rfl) (Nat.le_of_ble_eq_true rfl)
  exact ⟨rfl, rfl, rfl⟩
theorem d37_0 : decode jdk_68_method_10_code 0 = .ok (.aload_n 0, 1) := by decide +kernel
theorem d37_1 : decode jdk_68_method_10_code 1 = .ok (.getfield 15, 3) := by decide +kernel
theorem d37_4 : decode jdk_68_method_10_code 4 = .ok (.arraylength, 1) := by decide +kernel
theorem d37_5 : decode jdk_68_method_10_code 5 = .ok (.istore_n 2, 1) := by decide +kernel
theorem d37_6 : decode jdk_68_method_10_code 6 = .ok (.iload_n 1, 1) := by decide +kernel
theorem d37_7 : decode jdk_68_method_10_code 7 = .ok (.aload_n 0, 1) := by decide +kernel
theorem d37_8 : decode jdk_68_method_10_code 8 = .ok (.getfield 22, 3) := by decide +kernel
theorem d37_11 : decode jdk_68_method_10_code 11 = .ok (.ishl, 1) := by decide +kernel
theorem d37_12 : decode jdk_68_method_10_code 12 = .ok (.istore_n 3, 1) := by decide +kernel
theorem d37_13 : decode jdk_68_method_10_code 13 = .ok (.iload_n 3, 1) := by decide +kernel
theorem d37_14 : decode jdk_68_method_10_code 14 = .ok (.iload_n 2, 1) := by decide +kernel
theorem d37_15 : decode jdk_68_method_10_code 15 = .ok (.isub, 1) := by decide +kernel
theorem d37_16 : decode jdk_68_method_10_code 16 = .ok (.istore 4, 2) := by decide +kernel
theorem d37_18 : decode jdk_68_method_10_code 18 = .ok (.iload_n 2, 1) := by decide +kernel
theorem d37_19 : decode jdk_68_method_10_code 19 = .ok (.iload 4, 2) := by decide +kernel
theorem d37_21 : decode jdk_68_method_10_code 21 = .ok (.iload_n 2, 1) := by decide +kernel
theorem d37_22 : decode jdk_68_method_10_code 22 = .ok (.iconst 2, 1) := by decide +kernel
theorem d37_23 : decode jdk_68_method_10_code 23 = .ok (.aload_n 0, 1) := by decide +kernel
theorem d37_24 : decode jdk_68_method_10_code 24 = .ok (.getfield 22, 3) := by decide +kernel
theorem d37_27 : decode jdk_68_method_10_code 27 = .ok (.ishl, 1) := by decide +kernel
theorem d37_28 : decode jdk_68_method_10_code 28 = .ok (.iadd, 1) := by decide +kernel
theorem d37_29 : decode jdk_68_method_10_code 29 = .ok (.invokestatic 114, 3) := by decide +kernel
theorem pd_86748538 : parseMethodDescriptor "(III)I" = some ⟨[.int, .int, .int], some .int⟩ := by decide +kernel
theorem d37_32 : decode jdk_68_method_10_code 32 = .ok (.istore 5, 2) := by decide +kernel
theorem d37_34 : decode jdk_68_method_10_code 34 = .ok (.iload 5, 2) := by decide +kernel
theorem d37_36 : decode jdk_68_method_10_code 36 = .ok (.ldc 39, 2) := by decide +kernel
theorem d37_38 : decode jdk_68_method_10_code 38 = .ok (.if_icmp .ne 13, 3) := by decide +kernel
theorem d37_51 : decode jdk_68_method_10_code 51 = .ok (.iload 5, 2) := by decide +kernel
theorem d37_53 : decode jdk_68_method_10_code 53 = .ok (.aload_n 0, 1) := by decide +kernel
theorem d37_54 : decode jdk_68_method_10_code 54 = .ok (.getfield 22, 3) := by decide +kernel
theorem d37_57 : decode jdk_68_method_10_code 57 = .ok (.ishr, 1) := by decide +kernel
theorem d37_58 : decode jdk_68_method_10_code 58 = .ok (.ireturn, 1) := by decide +kernel
theorem pn_73406812 : plainFor (⟨"java/lang/AbstractStringBuilder", "newCapacity", "(I)I"⟩ : MethodName) = true := by first | exact plainFor_of_name (by first | (simp [plainName, overriddenIn]; done) | decide +kernel) | decide +kernel
set_option maxRecDepth 65536 in
set_option maxHeartbeats 4000000 in
theorem ct_ncp (G : Own.Gx) (hw : ∀ d ∈ tables_1, d.before G.a0 G.Z = true) {As : List Own.Ent} {Li : List Own.LitE} (o b : Addr) (xs : List Int32) (cap : Nat) (hxc : xs.length ≤ cap) (hcap : cap ≤ 4000) (mn : Nat) (hmn : mn ≤ 4000) (hgt : ¬ mn ≤ cap) :
    Own.Ct G [] (⟨"java/lang/AbstractStringBuilder", "newCapacity", "(I)I"⟩ : MethodName) jdk_68_method_10_code 6 (some .int) ({ frames := 2, cells := 0, slots := 0, locals := 29 } : Room) [.ref o, .int mn.toInt32] ((o, true, Own.obj "java/lang/StringBuilder" F_java_lang_StringBuilder [.ref b, .int 0, .int xs.length.toInt32, .int 0]) :: (b, true, Own.arr .byte (Own.pad xs cap)) :: As) Li (fun v A L => v = some (.int (Own.grow cap mn).toInt32) ∧ A = ((o, true, Own.obj "java/lang/StringBuilder" F_java_lang_StringBuilder [.ref b, .int 0, .int xs.length.toInt32, .int 0]) :: (b, true, Own.arr .byte (Own.pad xs cap)) :: As) ∧ Li = L) := by
  refine Own.Ct.intro pn_73406812 (Ls := [.val (.ref o), .val (.int mn.toInt32), .unset, .unset, .unset, .unset]) rfl rfl ?_
  intro K
  refine Own.W.aloadN (pc := 0) d37_0 rfl rfl ?_
  refine Own.W.getF (pc := 1) (host := "") (Or.inl (hw _ (List.mem_of_getElem? (i := 52) rfl))) (Via.refl (O := "java/lang/AbstractStringBuilder")) d37_1 (by repeat (first | exact List.Mem.head _ | assumption | exact List.mem_append_right _ (List.Mem.head _) | apply List.Mem.tail)) (by repeat (first | exact Own.FAt.head | apply Own.FAt.tail)) ?_
  refine Own.W.alen (pc := 4) d37_4 (Own.AVin.mem (List.Mem.tail _ (List.Mem.head _))) (z := cap.toInt32) (by rw [Own.pad_len hxc]) ?_
  refine Own.W.istoreN (pc := 5) (Ls' := [_, _, _, _, _, _]) d37_5 rfl rfl ?_
  refine Own.W.iloadN (pc := 6) d37_6 rfl ?_
  refine Own.W.aloadN (pc := 7) d37_7 rfl rfl ?_
  refine Own.W.getF (pc := 8) (host := "") (Or.inl (hw _ (List.mem_of_getElem? (i := 54) rfl))) (Via.refl (O := "java/lang/AbstractStringBuilder")) d37_8 (by repeat (first | exact List.Mem.head _ | assumption | exact List.mem_append_right _ (List.Mem.head _) | apply List.Mem.tail)) (by repeat (first | exact Own.FAt.head | apply Own.FAt.tail)) ?_
  refine Own.W.ishl (pc := 11) d37_11 (z := mn.toInt32) (Own.shl0 _) ?_
  refine Own.W.istoreN (pc := 12) (Ls' := [_, _, _, _, _, _]) d37_12 rfl rfl ?_
  refine Own.W.iloadN (pc := 13) d37_13 rfl ?_
  refine Own.W.iloadN (pc := 14) d37_14 rfl ?_
  refine Own.W.isub (pc := 15) d37_15 (z := (mn - cap).toInt32) (Own.n_sub (by omega)) ?_
  refine Own.W.istore (pc := 16) (Ls' := [_, _, _, _, _, _]) d37_16 rfl rfl ?_
  refine Own.W.iloadN (pc := 18) d37_18 rfl ?_
  refine Own.W.iload (pc := 19) d37_19 rfl ?_
  refine Own.W.iloadN (pc := 21) d37_21 rfl ?_
  refine Own.W.iconst (pc := 22) (z := (2 : Int32)) d37_22 (by decide) ?_
  refine Own.W.aloadN (pc := 23) d37_23 rfl rfl ?_
  refine Own.W.getF (pc := 24) (host := "") (Or.inl (hw _ (List.mem_of_getElem? (i := 54) rfl))) (Via.refl (O := "java/lang/AbstractStringBuilder")) d37_24 (by repeat (first | exact List.Mem.head _ | assumption | exact List.mem_append_right _ (List.Mem.head _) | apply List.Mem.tail)) (by repeat (first | exact Own.FAt.head | apply Own.FAt.tail)) ?_
  refine Own.W.ishl (pc := 27) d37_27 (z := 2) (Own.shl0 _) ?_
  refine Own.W.iadd (pc := 28) d37_28 (z := (cap + 2).toInt32) (Own.n_add cap 2) ?_
  refine Own.W.callS (pc := 29) (ct_nln G hw cap (mn - cap) (cap + 2) (by omega) (by omega)) d37_29 (hw _ (List.mem_of_getElem? (i := 241) rfl)) (hw _ (List.mem_of_getElem? (i := 242) rfl)) (hw _ (List.mem_of_getElem? (i := 243) rfl)) (hw _ (List.mem_of_getElem? (i := 244) rfl)) (by decide) pd_86748538 rfl rfl (Nat.le_of_ble_eq_true rfl) (Nat.le_of_ble_eq_true rfl) (Nat.le_of_ble_eq_true rfl) (Nat.le_of_ble_eq_true rfl) ?_
  rintro _ _ _ ⟨rfl, rfl, rfl⟩
  refine Own.W.istore (pc := 32) (Ls' := [_, _, _, _, _, _]) d37_32 rfl rfl ?_
  refine Own.W.iload (pc := 34) d37_34 rfl ?_
  refine Own.W.ldcI (pc := 36) (z := 2147483647) (hw _ (List.mem_of_getElem? (i := 249) rfl)) d37_36 ?_
  refine Own.W.ic_ne (pc := 38) 51 d37_38 (by decide) (by decide) ?_ (fun h38 => absurd h38 (Own.n_ne (b := 2147483647) (by omega) (by omega) (by decide)))
  intro h38
  refine Own.W.iload (pc := 51) d37_51 rfl ?_
  refine Own.W.aloadN (pc := 53) d37_53 rfl rfl ?_
  refine Own.W.getF (pc := 54) (host := "") (Or.inl (hw _ (List.mem_of_getElem? (i := 54) rfl))) (Via.refl (O := "java/lang/AbstractStringBuilder")) d37_54 (by repeat (first | exact List.Mem.head _ | assumption | exact List.mem_append_right _ (List.Mem.head _) | apply List.Mem.tail)) (by repeat (first | exact Own.FAt.head | apply Own.FAt.tail)) ?_
  refine Own.W.ishr (pc := 57) d37_57 (z := (cap + max (mn - cap) (cap + 2)).toInt32) (Own.shr0' _) ?_
  refine Own.W.iret (pc := 58) d37_58 rfl (by simp) rfl ?_ (Nat.le_of_ble_eq_true rfl) (Nat.le_of_ble_eq_true rfl)
  exact ⟨by rw [Own.grow_gt hgt], rfl, rfl⟩
theorem d13_0 : decode jdk_68_method_9_code 0 = .ok (.aload_n 0, 1) := by decide +kernel
theorem d13_1 : decode jdk_68_method_9_code 1 = .ok (.getfield 15, 3) := by decide +kernel
theorem d13_4 : decode jdk_68_method_9_code 4 = .ok (.arraylength, 1) := by decide +kernel
theorem d13_5 : decode jdk_68_method_9_code 5 = .ok (.aload_n 0, 1) := by decide +kernel
theorem d13_6 : decode jdk_68_method_9_code 6 = .ok (.getfield 22, 3) := by decide +kernel
theorem d13_9 : decode jdk_68_method_9_code 9 = .ok (.ishr, 1) := by decide +kernel
theorem d13_10 : decode jdk_68_method_9_code 10 = .ok (.istore_n 2, 1) := by decide +kernel
theorem d13_11 : decode jdk_68_method_9_code 11 = .ok (.iload_n 1, 1) := by decide +kernel
theorem d13_12 : decode jdk_68_method_9_code 12 = .ok (.iload_n 2, 1) := by decide +kernel
theorem d13_13 : decode jdk_68_method_9_code 13 = .ok (.isub, 1) := by decide +kernel
theorem d13_14 : decode jdk_68_method_9_code 14 = .ok (.ifCond .le 24, 3) := by decide +kernel
theorem d13_38 : decode jdk_68_method_9_code 38 = .ok (.return_, 1) := by decide +kernel
theorem d13_17 : decode jdk_68_method_9_code 17 = .ok (.aload_n 0, 1) := by decide +kernel
theorem d13_18 : decode jdk_68_method_9_code 18 = .ok (.aload_n 0, 1) := by decide +kernel
theorem d13_19 : decode jdk_68_method_9_code 19 = .ok (.getfield 15, 3) := by decide +kernel
theorem d13_22 : decode jdk_68_method_9_code 22 = .ok (.aload_n 0, 1) := by decide +kernel
theorem d13_23 : decode jdk_68_method_9_code 23 = .ok (.iload_n 1, 1) := by decide +kernel
theorem d13_24 : decode jdk_68_method_9_code 24 = .ok (.invokevirtual 104, 3) := by decide +kernel
theorem d13_27 : decode jdk_68_method_9_code 27 = .ok (.aload_n 0, 1) := by decide +kernel
theorem d13_28 : decode jdk_68_method_9_code 28 = .ok (.getfield 22, 3) := by decide +kernel
theorem d13_31 : decode jdk_68_method_9_code 31 = .ok (.ishl, 1) := by decide +kernel
theorem d13_32 : decode jdk_68_method_9_code 32 = .ok (.invokestatic 108, 3) := by decide +kernel
theorem pd_24263193 : parseMethodDescriptor "([BI)[B" = some ⟨[(.array .byte), .int], some (.array .byte)⟩ := by decide +kernel
theorem d13_35 : decode jdk_68_method_9_code 35 = .ok (.putfield 15, 3) := by decide +kernel
theorem pn_20301582 : plainFor (⟨"java/lang/AbstractStringBuilder", "ensureCapacityInternal", "(I)V"⟩ : MethodName) = true := by first | exact plainFor_of_name (by first | (simp [plainName, overriddenIn]; done) | decide +kernel) | decide +kernel
set_option maxRecDepth 65536 in
set_option maxHeartbeats 4000000 in
theorem ct_eci (G : Own.Gx) (hw : ∀ d ∈ tables_1, d.before G.a0 G.Z = true) {As : List Own.Ent} {Li : List Own.LitE} (o b : Addr) (xs : List Int32) (cap : Nat) (hxc : xs.length ≤ cap) (hcap : cap ≤ 4000) (mn N : Nat) (hmn : mn ≤ 4000) (hN : Own.grow cap mn ≤ N) (hN4 : N ≤ 4000) :
    Own.Ct G [] (⟨"java/lang/AbstractStringBuilder", "ensureCapacityInternal", "(I)V"⟩ : MethodName) jdk_68_method_9_code 3 none ({ frames := 3, cells := 1, slots := N, locals := 48 } : Room) [.ref o, .int mn.toInt32] ((o, true, Own.obj "java/lang/StringBuilder" F_java_lang_StringBuilder [.ref b, .int 0, .int xs.length.toInt32, .int 0]) :: (b, true, Own.arr .byte (Own.pad xs cap)) :: As) Li (fun v A L => ∃ b2 A0, v = none ∧ A = ((o, true, Own.obj "java/lang/StringBuilder" F_java_lang_StringBuilder [.ref b2, .int 0, .int xs.length.toInt32, .int 0]) :: (b2, true, Own.arr .byte (Own.pad xs (Own.grow cap mn))) :: A0) ∧ Own.Sub As A0 ∧ Li = L) := by
  refine Own.Ct.intro pn_20301582 (Ls := [.val (.ref o), .val (.int mn.toInt32), .unset]) rfl rfl ?_
  intro K
  refine Own.W.aloadN (pc := 0) d13_0 rfl rfl ?_
  refine Own.W.getF (pc := 1) (host := "") (Or.inl (hw _ (List.mem_of_getElem? (i := 52) rfl))) (Via.refl (O := "java/lang/AbstractStringBuilder")) d13_1 (by repeat (first | exact List.Mem.head _ | assumption | exact List.mem_append_right _ (List.Mem.head _) | apply List.Mem.tail)) (by repeat (first | exact Own.FAt.head | apply Own.FAt.tail)) ?_
  refine Own.W.alen (pc := 4) d13_4 (Own.AVin.mem (List.Mem.tail _ (List.Mem.head _))) (z := cap.toInt32) (by rw [Own.pad_len hxc]) ?_
  refine Own.W.aloadN (pc := 5) d13_5 rfl rfl ?_
  refine Own.W.getF (pc := 6) (host := "") (Or.inl (hw _ (List.mem_of_getElem? (i := 54) rfl))) (Via.refl (O := "java/lang/AbstractStringBuilder")) d13_6 (by repeat (first | exact List.Mem.head _ | assumption | exact List.mem_append_right _ (List.Mem.head _) | apply List.Mem.tail)) (by repeat (first | exact Own.FAt.head | apply Own.FAt.tail)) ?_
  refine Own.W.ishr (pc := 9) d13_9 (z := cap.toInt32) (Own.shr0' _) ?_
  refine Own.W.istoreN (pc := 10) (Ls' := [_, _, _]) d13_10 rfl rfl ?_
  refine Own.W.iloadN (pc := 11) d13_11 rfl ?_
  refine Own.W.iloadN (pc := 12) d13_12 rfl ?_
  by_cases hg : mn ≤ cap
  · refine Own.W.isub (pc := 13) d13_13 rfl ?_
    refine Own.W.if_le (pc := 14) 38 d13_14 (by decide) (by decide) ?_ (fun h14 => absurd h14 (Own.n_subnp hg (by omega)))
    intro h14
    refine Own.W.vret (pc := 38) d13_38 rfl  ?_ (by first | exact Nat.le_of_ble_eq_true rfl | (simp; done) | (simp; omega)) (by first | exact Nat.le_of_ble_eq_true rfl | (simp; done) | (simp; omega))
    exact ⟨b, As, rfl, by rw [Own.grow_le hg], Own.Sub.refl _, rfl⟩
  · have hgr := Own.grow_gt hg
    refine Own.W.isub (pc := 13) d13_13 (z := (mn - cap).toInt32) (Own.n_sub (by omega)) ?_
    refine Own.W.if_le (pc := 14) 38 d13_14 (by decide) (by decide) (fun h14 => absurd h14 (fun q => q (Own.n_pos (by omega) (by omega)))) ?_
    intro h14
    refine Own.W.aloadN (pc := 17) d13_17 rfl rfl ?_
    refine Own.W.aloadN (pc := 18) d13_18 rfl rfl ?_
    refine Own.W.getF (pc := 19) (host := "") (Or.inl (hw _ (List.mem_of_getElem? (i := 52) rfl))) (Via.refl (O := "java/lang/AbstractStringBuilder")) d13_19 (by repeat (first | exact List.Mem.head _ | assumption | exact List.mem_append_right _ (List.Mem.head _) | apply List.Mem.tail)) (by repeat (first | exact Own.FAt.head | apply Own.FAt.tail)) ?_
    refine Own.W.aloadN (pc := 22) d13_22 rfl rfl ?_
    refine Own.W.iloadN (pc := 23) d13_23 rfl ?_
    refine Own.W.callV (pc := 24) (ct_ncp G hw o b xs cap hxc hcap mn hmn hg) d13_24 (C := "java/lang/StringBuilder") (Own.Is.mem (List.Mem.head _)) (hw _ (List.mem_of_getElem? (i := 236) rfl)) (Own.decl_of (hw _ (List.mem_of_getElem? (i := 237) rfl)) (hw _ (List.mem_of_getElem? (i := 240) rfl))) (Own.nf_sel (hw _ (List.mem_of_getElem? (i := 239) rfl))) (hw _ (List.mem_of_getElem? (i := 239) rfl)) (hw _ (List.mem_of_getElem? (i := 237) rfl)) (hw _ (List.mem_of_getElem? (i := 48) rfl)) (hw _ (List.mem_of_getElem? (i := 240) rfl)) (by decide) pd_87992008 rfl rfl (Nat.le_of_ble_eq_true rfl) (Nat.le_of_ble_eq_true rfl) (by first | exact Nat.le_of_ble_eq_true rfl | (simp; done) | (simp; omega)) (by first | exact Nat.le_of_ble_eq_true rfl | (simp; done) | (simp; omega)) ?_
    rintro _ _ _ ⟨rfl, rfl, rfl⟩
    refine Own.W.aloadN (pc := 27) d13_27 rfl rfl ?_
    refine Own.W.getF (pc := 28) (host := "") (Or.inl (hw _ (List.mem_of_getElem? (i := 54) rfl))) (Via.refl (O := "java/lang/AbstractStringBuilder")) d13_28 (by repeat (first | exact List.Mem.head _ | assumption | exact List.mem_append_right _ (List.Mem.head _) | apply List.Mem.tail)) (by repeat (first | exact Own.FAt.head | apply Own.FAt.tail)) ?_
    refine Own.W.ishl (pc := 31) d13_31 (z := (Own.grow cap mn).toInt32) (Own.shl0 _) ?_
    refine Own.W.callS (pc := 32) (ct_cpy G hw b _ (Own.grow cap mn) N (by rw [Own.pad_len hxc]; omega) hN hN4 (Own.AVin.mem (List.Mem.tail _ (List.Mem.head _)))) d13_32 (hw _ (List.mem_of_getElem? (i := 250) rfl)) (hw _ (List.mem_of_getElem? (i := 251) rfl)) (hw _ (List.mem_of_getElem? (i := 137) rfl)) (hw _ (List.mem_of_getElem? (i := 252) rfl)) (by decide) pd_24263193 rfl rfl (Nat.le_of_ble_eq_true rfl) (Nat.le_of_ble_eq_true rfl) (by first | exact Nat.le_of_ble_eq_true rfl | (simp; done) | (simp; omega)) (by first | exact Nat.le_of_ble_eq_true rfl | (simp; done) | (simp; omega)) ?_
    rintro _ _ _ ⟨b2, rfl, rfl, rfl⟩
    refine Own.W.putF (pc := 35) (host := "") (Or.inl (hw _ (List.mem_of_getElem? (i := 52) rfl))) (Via.refl (O := "java/lang/AbstractStringBuilder")) d13_35 (Or.inl (hw _ (List.mem_of_getElem? (i := 53) rfl))) (hw _ (List.mem_of_getElem? (i := 39) rfl)) (ty := (.array .byte)) (by decide) rfl rfl (by repeat (first | exact Own.Upd.head | exact Own.Upd.mid | apply Own.Upd.tail)) (by repeat (first | exact Own.FUp.head | apply Own.FUp.tail)) ?_
    refine Own.W.perm ?_ (List.Perm.swap _ _ _)
    rw [Own.pad_len hxc, Own.pad_grow hxc (by omega)]
    refine Own.W.vret (pc := 38) d13_38 rfl  ?_ (by first | exact Nat.le_of_ble_eq_true rfl | (simp; done) | (simp; omega)) (by first | exact Nat.le_of_ble_eq_true rfl | (simp; done) | (simp; omega))
    exact ⟨b2, _, rfl, rfl, Own.Sub.cons (Own.Sub.refl _), rfl⟩
theorem d15_0 : decode jdk_68_method_71_code 0 = .ok (.getstatic 18, 3) := by decide +kernel
theorem d15_3 : decode jdk_68_method_71_code 3 = .ok (.ifCond .eq 18, 3) := by decide +kernel
theorem d15_6 : decode jdk_68_method_71_code 6 = .ok (.aload_n 0, 1) := by decide +kernel
theorem d15_7 : decode jdk_68_method_71_code 7 = .ok (.getfield 22, 3) := by decide +kernel
theorem d15_10 : decode jdk_68_method_71_code 10 = .ok (.aload_n 1, 1) := by decide +kernel
theorem d15_11 : decode jdk_68_method_71_code 11 = .ok (.invokevirtual 40, 3) := by decide +kernel
theorem d15_14 : decode jdk_68_method_71_code 14 = .ok (.if_icmp .eq 7, 3) := by decide +kernel
theorem d15_21 : decode jdk_68_method_71_code 21 = .ok (.return_, 1) := by decide +kernel
theorem pn_21961446 : plainFor (⟨"java/lang/AbstractStringBuilder", "inflateIfNeededFor", "(Ljava/lang/String;)V"⟩ : MethodName) = true := by first | exact plainFor_of_name (by first | (simp [plainName, overriddenIn]; done) | decide +kernel) | decide +kernel
set_option maxRecDepth 65536 in
set_option maxHeartbeats 4000000 in
theorem ct_inf (G : Own.Gx) (hw : ∀ d ∈ tables_1, d.before G.a0 G.Z = true) (hC : Own.CSt G) {As : List Own.Ent} {Li : List Own.LitE} (o b : Addr) (xs : List Int32) (cap : Nat) (hxc : xs.length ≤ cap) (hcap : cap ≤ 4000) (s : Addr) (ys : List Int32) (hs : Own.StrF As s (ys.map Value.int)) :
    Own.Ct G [] (⟨"java/lang/AbstractStringBuilder", "inflateIfNeededFor", "(Ljava/lang/String;)V"⟩ : MethodName) jdk_68_method_71_code 2 none ({ frames := 1, cells := 0, slots := 0, locals := 13 } : Room) [.ref o, .ref s] ((o, true, Own.obj "java/lang/StringBuilder" F_java_lang_StringBuilder [.ref b, .int 0, .int xs.length.toInt32, .int 0]) :: (b, true, Own.arr .byte (Own.pad xs cap)) :: As) Li (fun v A L => v = none ∧ A = ((o, true, Own.obj "java/lang/StringBuilder" F_java_lang_StringBuilder [.ref b, .int 0, .int xs.length.toInt32, .int 0]) :: (b, true, Own.arr .byte (Own.pad xs cap)) :: As) ∧ Li = L) := by
  refine Own.Ct.intro pn_21961446 (Ls := [.val (.ref o), .val (.ref s)]) rfl rfl ?_
  intro K
  obtain ⟨cz, hC1, hC2⟩ := hC
  refine Own.W.getS (pc := 0) (host := "") (Or.inl (hw _ (List.mem_of_getElem? (i := 51) rfl))) (Via.refl (O := "java/lang/String")) d15_0 hC1 ?_
  refine Own.W.if_eq (pc := 3) 21 d15_3 (by decide) (by decide) (fun h3 => absurd h3 hC2) ?_
  intro h3
  refine Own.W.aloadN (pc := 6) d15_6 rfl rfl ?_
  refine Own.W.getF (pc := 7) (host := "") (Or.inl (hw _ (List.mem_of_getElem? (i := 54) rfl))) (Via.refl (O := "java/lang/AbstractStringBuilder")) d15_7 (by repeat (first | exact List.Mem.head _ | assumption | exact List.mem_append_right _ (List.Mem.head _) | apply List.Mem.tail)) (by repeat (first | exact Own.FAt.head | apply Own.FAt.tail)) ?_
  refine Own.W.aloadN (pc := 10) d15_10 rfl rfl ?_
  refine Own.W.callV (pc := 11) (ct_coder G hw ⟨cz, hC1, hC2⟩ s _ 0 rfl (hs.sub (Own.Sub.cons (Own.Sub.cons (Own.Sub.refl _)))).str) d15_11 (C := "java/lang/String") (hs.sub (Own.Sub.cons (Own.Sub.cons (Own.Sub.refl _)))).is (hw _ (List.mem_of_getElem? (i := 95) rfl)) (hw _ (List.mem_of_getElem? (i := 73) rfl)) (Own.nf_sel (hw _ (List.mem_of_getElem? (i := 75) rfl))) (hw _ (List.mem_of_getElem? (i := 75) rfl)) (hw _ (List.mem_of_getElem? (i := 74) rfl)) (hw _ (List.mem_of_getElem? (i := 7) rfl)) (hw _ (List.mem_of_getElem? (i := 76) rfl)) (by decide) pd_93421976 rfl rfl (Nat.le_of_ble_eq_true rfl) (Nat.le_of_ble_eq_true rfl) (Nat.le_of_ble_eq_true rfl) (Nat.le_of_ble_eq_true rfl) ?_
  rintro _ _ _ ⟨rfl, rfl, rfl⟩
  refine Own.W.ic_eq (pc := 14) 21 d15_14 (by decide) (by decide) ?_ (fun h14 => absurd h14 (fun q => q rfl))
  intro h14
  refine Own.W.vret (pc := 21) d15_21 rfl ?_ (Nat.le_of_ble_eq_true rfl) (Nat.le_of_ble_eq_true rfl)
  exact ⟨rfl, rfl, rfl⟩
theorem d16_0 : decode jdk_42_method_147_code 0 = .ok (.aload_n 0, 1) := by decide +kernel
theorem d16_1 : decode jdk_42_method_147_code 1 = .ok (.invokevirtual 335, 3) := by decide +kernel
theorem d16_4 : decode jdk_42_method_147_code 4 = .ok (.iload_n 3, 1) := by decide +kernel
theorem d16_5 : decode jdk_42_method_147_code 5 = .ok (.if_icmp .ne 23, 3) := by decide +kernel
theorem d16_8 : decode jdk_42_method_147_code 8 = .ok (.aload_n 0, 1) := by decide +kernel
theorem d16_9 : decode jdk_42_method_147_code 9 = .ok (.getfield 9, 3) := by decide +kernel
theorem d16_12 : decode jdk_42_method_147_code 12 = .ok (.iconst 0, 1) := by decide +kernel
theorem d16_13 : decode jdk_42_method_147_code 13 = .ok (.aload_n 1, 1) := by decide +kernel
theorem d16_14 : decode jdk_42_method_147_code 14 = .ok (.iload_n 2, 1) := by decide +kernel
theorem d16_15 : decode jdk_42_method_147_code 15 = .ok (.iload_n 3, 1) := by decide +kernel
theorem d16_16 : decode jdk_42_method_147_code 16 = .ok (.ishl, 1) := by decide +kernel
theorem d16_17 : decode jdk_42_method_147_code 17 = .ok (.aload_n 0, 1) := by decide +kernel
theorem d16_18 : decode jdk_42_method_147_code 18 = .ok (.getfield 9, 3) := by decide +kernel
theorem d16_21 : decode jdk_42_method_147_code 21 = .ok (.arraylength, 1) := by decide +kernel
theorem d16_22 : decode jdk_42_method_147_code 22 = .ok (.invokestatic 212, 3) := by decide +kernel
theorem d16_25 : decode jdk_42_method_147_code 25 = .ok (.goto 18, 3) := by decide +kernel
theorem d16_43 : decode jdk_42_method_147_code 43 = .ok (.return_, 1) := by decide +kernel
theorem pn_79751644 : plainFor (⟨"java/lang/String", "getBytes", "([BIB)V"⟩ : MethodName) = true := by first | exact plainFor_of_name (by first | (simp [plainName, overriddenIn]; done) | decide +kernel) | decide +kernel
set_option maxRecDepth 65536 in
set_option maxHeartbeats 4000000 in
theorem ct_gby (G : Own.Gx) (hw : ∀ d ∈ tables_1, d.before G.a0 G.Z = true) (hC : Own.CSt G) {As : List Own.Ent} {Li : List Own.LitE} (x : Own.Ent) (b : Addr) (us : List Value) (n : Nat) (s : Addr) (ys : List Int32) (hs : Own.StrF As s (ys.map Value.int)) (hn : n + ys.length ≤ us.length) (hu : us.length ≤ 4000) :
    Own.Ct G [] (⟨"java/lang/String", "getBytes", "([BIB)V"⟩ : MethodName) jdk_42_method_147_code 4 none ({ frames := 1, cells := 0, slots := 0, locals := 18 } : Room) [.ref s, .ref b, .int n.toInt32, .int 0] (x :: (b, true, Own.arr .byte us) :: As) Li (fun v A L => v = none ∧ A = x :: (b, true, Own.arr .byte (us.take n ++ ys.map Value.int ++ us.drop (n + ys.length))) :: As ∧ Li = L) := by
  refine Own.Ct.intro pn_79751644 (Ls := [.val (.ref s), .val (.ref b), .val (.int n.toInt32), .val (.int 0)]) rfl rfl ?_
  intro K
  obtain ⟨ab, a1, a2, a3, a4⟩ := ((hs.sub (Own.Sub.cons (Own.Sub.cons (Own.Sub.refl _)))).str : Own.StrIn G _ s _ 0)
  refine Own.W.aloadN (pc := 0) d16_0 rfl rfl ?_
  refine Own.W.callV (pc := 1) (ct_coder G hw hC s _ 0 rfl (hs.sub (Own.Sub.cons (Own.Sub.cons (Own.Sub.refl _)))).str) d16_1 (C := "java/lang/String") (hs.sub (Own.Sub.cons (Own.Sub.cons (Own.Sub.refl _)))).is (hw _ (List.mem_of_getElem? (i := 72) rfl)) (hw _ (List.mem_of_getElem? (i := 73) rfl)) (Own.nf_sel (hw _ (List.mem_of_getElem? (i := 75) rfl))) (hw _ (List.mem_of_getElem? (i := 75) rfl)) (hw _ (List.mem_of_getElem? (i := 74) rfl)) (hw _ (List.mem_of_getElem? (i := 7) rfl)) (hw _ (List.mem_of_getElem? (i := 76) rfl)) (by decide) pd_93421976 rfl rfl (Nat.le_of_ble_eq_true rfl) (Nat.le_of_ble_eq_true rfl) (Nat.le_of_ble_eq_true rfl) (Nat.le_of_ble_eq_true rfl) ?_
  rintro _ _ _ ⟨rfl, rfl, rfl⟩
  refine Own.W.iloadN (pc := 4) d16_4 rfl ?_
  refine Own.W.ic_ne (pc := 5) 28 d16_5 (by decide) (by decide) (fun h5 => absurd h5 (fun q => q rfl)) ?_
  intro h5
  refine Own.W.aloadN (pc := 8) d16_8 rfl rfl ?_
  refine Own.W.getI (pc := 9) (host := "") (Or.inl (hw _ (List.mem_of_getElem? (i := 25) rfl))) (Via.refl (O := "java/lang/String")) d16_9 a2 ?_
  refine Own.W.iconst (pc := 12) (z := (0 : Int32)) d16_12 (by decide) ?_
  refine Own.W.aloadN (pc := 13) d16_13 rfl rfl ?_
  refine Own.W.iloadN (pc := 14) d16_14 rfl ?_
  refine Own.W.iloadN (pc := 15) d16_15 rfl ?_
  refine Own.W.ishl (pc := 16) d16_16 (z := n.toInt32) (Own.shl0 _) ?_
  refine Own.W.aloadN (pc := 17) d16_17 rfl rfl ?_
  refine Own.W.getI (pc := 18) (host := "") (Or.inl (hw _ (List.mem_of_getElem? (i := 25) rfl))) (Via.refl (O := "java/lang/String")) d16_18 a2 ?_
  refine Own.W.alen (pc := 21) d16_21 a4 (z := ys.length.toInt32) (by simp) ?_
  refine Own.W.acopy (pc := 22) (us := us) d16_22 (hw _ (List.mem_of_getElem? (i := 101) rfl)) (hw _ (List.mem_of_getElem? (i := 104) rfl)) (hw _ (List.mem_of_getElem? (i := 102) rfl)) (hw _ (List.mem_of_getElem? (i := 103) rfl)) a4 rfl (by decide) (Own.n_nn (by omega)) (Own.n_nn (by omega)) (i := 0) rfl (Own.n_clamp (by omega)) (Own.n_clamp (by omega)) (by simp) (by omega) (us' := us.take n ++ ys.map Value.int ++ us.drop (n + ys.length)) (by rw [List.drop_zero, show (ys.map Value.int).take ys.length = ys.map Value.int from List.take_of_length_le (by simp)]) (by repeat (first | exact Own.Upd.head | exact Own.Upd.mid | apply Own.Upd.tail)) (Nat.le_of_ble_eq_true rfl) (Nat.le_of_ble_eq_true rfl) ?_
  refine Own.W.goto (pc := 25) 43 d16_25 (by decide) (by decide) ?_
  refine Own.W.vret (pc := 43) d16_43 rfl ?_ (Nat.le_of_ble_eq_true rfl) (Nat.le_of_ble_eq_true rfl)
  exact ⟨rfl, rfl, rfl⟩
theorem d14_0 : decode jdk_68_method_73_code 0 = .ok (.aload_n 0, 1) := by decide +kernel
theorem d14_1 : decode jdk_68_method_73_code 1 = .ok (.aload_n 2, 1) := by decide +kernel
theorem d14_2 : decode jdk_68_method_73_code 2 = .ok (.invokevirtual 397, 3) := by decide +kernel
theorem pd_62450860 : parseMethodDescriptor "(Ljava/lang/String;)V" = some ⟨[(.object "java/lang/String")], none⟩ := by decide +kernel
theorem d14_5 : decode jdk_68_method_73_code 5 = .ok (.aload_n 2, 1) := by decide +kernel
theorem d14_6 : decode jdk_68_method_73_code 6 = .ok (.aload_n 0, 1) := by decide +kernel
theorem d14_7 : decode jdk_68_method_73_code 7 = .ok (.getfield 15, 3) := by decide +kernel
theorem d14_10 : decode jdk_68_method_73_code 10 = .ok (.iload_n 1, 1) := by decide +kernel
theorem d14_11 : decode jdk_68_method_73_code 11 = .ok (.aload_n 0, 1) := by decide +kernel
theorem d14_12 : decode jdk_68_method_73_code 12 = .ok (.getfield 22, 3) := by decide +kernel
theorem d14_15 : decode jdk_68_method_73_code 15 = .ok (.invokevirtual 399, 3) := by decide +kernel
theorem pd_24288788 : parseMethodDescriptor "([BIB)V" = some ⟨[(.array .byte), .int, .byte], none⟩ := by decide +kernel
theorem d14_18 : decode jdk_68_method_73_code 18 = .ok (.return_, 1) := by decide +kernel
theorem pn_19119446 : plainFor (⟨"java/lang/AbstractStringBuilder", "putStringAt", "(ILjava/lang/String;)V"⟩ : MethodName) = true := by first | exact plainFor_of_name (by first | (simp [plainName, overriddenIn]; done) | decide +kernel) | decide +kernel
set_option maxRecDepth 65536 in
set_option maxHeartbeats 4000000 in
theorem ct_psa (G : Own.Gx) (hw : ∀ d ∈ tables_1, d.before G.a0 G.Z = true) (hC : Own.CSt G) {As : List Own.Ent} {Li : List Own.LitE} (o b : Addr) (xs : List Int32) (cap : Nat) (hxc : xs.length ≤ cap) (hcap : cap ≤ 4000) (s : Addr) (ys : List Int32) (hs : Own.StrF As s (ys.map Value.int)) (hn : xs.length + ys.length ≤ cap) :
    Own.Ct G [] (⟨"java/lang/AbstractStringBuilder", "putStringAt", "(ILjava/lang/String;)V"⟩ : MethodName) jdk_68_method_73_code 3 none ({ frames := 2, cells := 0, slots := 0, locals := 33 } : Room) [.ref o, .int xs.length.toInt32, .ref s] ((o, true, Own.obj "java/lang/StringBuilder" F_java_lang_StringBuilder [.ref b, .int 0, .int xs.length.toInt32, .int 0]) :: (b, true, Own.arr .byte (Own.pad xs cap)) :: As) Li (fun v A L => v = none ∧ A = ((o, true, Own.obj "java/lang/StringBuilder" F_java_lang_StringBuilder [.ref b, .int 0, .int xs.length.toInt32, .int 0]) :: (b, true, Own.arr .byte (Own.pad (xs ++ ys) cap)) :: As) ∧ Li = L) := by
  refine Own.Ct.intro pn_19119446 (Ls := [.val (.ref o), .val (.int xs.length.toInt32), .val (.ref s)]) rfl rfl ?_
  intro K
  refine Own.W.aloadN (pc := 0) d14_0 rfl rfl ?_
  refine Own.W.aloadN (pc := 1) d14_1 rfl rfl ?_
  refine Own.W.callV (pc := 2) (ct_inf G hw hC o b xs cap hxc hcap s ys hs) d14_2 (C := "java/lang/StringBuilder") (Own.Is.mem (List.Mem.head _)) (hw _ (List.mem_of_getElem? (i := 90) rfl)) (Own.decl_of (hw _ (List.mem_of_getElem? (i := 91) rfl)) (hw _ (List.mem_of_getElem? (i := 94) rfl))) (Own.nf_sel (hw _ (List.mem_of_getElem? (i := 93) rfl))) (hw _ (List.mem_of_getElem? (i := 93) rfl)) (hw _ (List.mem_of_getElem? (i := 91) rfl)) (hw _ (List.mem_of_getElem? (i := 48) rfl)) (hw _ (List.mem_of_getElem? (i := 94) rfl)) (by decide) pd_62450860 rfl rfl (Nat.le_of_ble_eq_true rfl) (Nat.le_of_ble_eq_true rfl) (Nat.le_of_ble_eq_true rfl) (Nat.le_of_ble_eq_true rfl) ?_
  rintro _ _ _ ⟨rfl, rfl, rfl⟩
  refine Own.W.aloadN (pc := 5) d14_5 rfl rfl ?_
  refine Own.W.aloadN (pc := 6) d14_6 rfl rfl ?_
  refine Own.W.getF (pc := 7) (host := "") (Or.inl (hw _ (List.mem_of_getElem? (i := 52) rfl))) (Via.refl (O := "java/lang/AbstractStringBuilder")) d14_7 (by repeat (first | exact List.Mem.head _ | assumption | exact List.mem_append_right _ (List.Mem.head _) | apply List.Mem.tail)) (by repeat (first | exact Own.FAt.head | apply Own.FAt.tail)) ?_
  refine Own.W.iloadN (pc := 10) d14_10 rfl ?_
  refine Own.W.aloadN (pc := 11) d14_11 rfl rfl ?_
  refine Own.W.getF (pc := 12) (host := "") (Or.inl (hw _ (List.mem_of_getElem? (i := 54) rfl))) (Via.refl (O := "java/lang/AbstractStringBuilder")) d14_12 (by repeat (first | exact List.Mem.head _ | assumption | exact List.mem_append_right _ (List.Mem.head _) | apply List.Mem.tail)) (by repeat (first | exact Own.FAt.head | apply Own.FAt.tail)) ?_
  refine Own.W.callV (pc := 15) (ct_gby G hw hC _ b _ xs.length s ys hs (by rw [Own.pad_len hxc]; exact hn) (by rw [Own.pad_len hxc]; exact hcap)) d14_15 (C := "java/lang/String") (hs.sub (Own.Sub.cons (Own.Sub.cons (Own.Sub.refl _)))).is (hw _ (List.mem_of_getElem? (i := 96) rfl)) (hw _ (List.mem_of_getElem? (i := 97) rfl)) (Own.nf_sel (hw _ (List.mem_of_getElem? (i := 99) rfl))) (hw _ (List.mem_of_getElem? (i := 99) rfl)) (hw _ (List.mem_of_getElem? (i := 98) rfl)) (hw _ (List.mem_of_getElem? (i := 7) rfl)) (hw _ (List.mem_of_getElem? (i := 100) rfl)) (by decide) pd_24288788 rfl rfl (Nat.le_of_ble_eq_true rfl) (Nat.le_of_ble_eq_true rfl) (Nat.le_of_ble_eq_true rfl) (Nat.le_of_ble_eq_true rfl) ?_
  rintro _ _ _ ⟨rfl, rfl, rfl⟩
  rw [Own.pad_put hn]
  refine Own.W.vret (pc := 18) d14_18 rfl  ?_ (Nat.le_of_ble_eq_true rfl) (Nat.le_of_ble_eq_true rfl)
  exact ⟨rfl, rfl, rfl⟩
theorem d10_0 : decode jdk_68_method_22_code 0 = .ok (.aload_n 1, 1) := by decide +kernel
theorem d10_1 : decode jdk_68_method_22_code 1 = .ok (.ifnonnull 8, 3) := by decide +kernel
theorem d10_9 : decode jdk_68_method_22_code 9 = .ok (.aload_n 1, 1) := by decide +kernel
theorem d10_10 : decode jdk_68_method_22_code 10 = .ok (.invokevirtual 32, 3) := by decide +kernel
theorem pd_93421983 : parseMethodDescriptor "()I" = some ⟨[], some .int⟩ := by decide +kernel
theorem d10_13 : decode jdk_68_method_22_code 13 = .ok (.istore_n 2, 1) := by decide +kernel
theorem d10_14 : decode jdk_68_method_22_code 14 = .ok (.aload_n 0, 1) := by decide +kernel
theorem d10_15 : decode jdk_68_method_22_code 15 = .ok (.aload_n 0, 1) := by decide +kernel
theorem d10_16 : decode jdk_68_method_22_code 16 = .ok (.getfield 79, 3) := by decide +kernel
theorem d10_19 : decode jdk_68_method_22_code 19 = .ok (.iload_n 2, 1) := by decide +kernel
theorem d10_20 : decode jdk_68_method_22_code 20 = .ok (.iadd, 1) := by decide +kernel
theorem d10_21 : decode jdk_68_method_22_code 21 = .ok (.invokevirtual 100, 3) := by decide +kernel
theorem d10_24 : decode jdk_68_method_22_code 24 = .ok (.aload_n 0, 1) := by decide +kernel
theorem d10_25 : decode jdk_68_method_22_code 25 = .ok (.aload_n 0, 1) := by decide +kernel
theorem d10_26 : decode jdk_68_method_22_code 26 = .ok (.getfield 79, 3) := by decide +kernel
theorem d10_29 : decode jdk_68_method_22_code 29 = .ok (.aload_n 1, 1) := by decide +kernel
theorem d10_30 : decode jdk_68_method_22_code 30 = .ok (.invokevirtual 208, 3) := by decide +kernel
theorem pd_62292757 : parseMethodDescriptor "(ILjava/lang/String;)V" = some ⟨[.int, (.object "java/lang/String")], none⟩ := by decide +kernel
theorem d10_33 : decode jdk_68_method_22_code 33 = .ok (.aload_n 0, 1) := by decide +kernel
theorem d10_34 : decode jdk_68_method_22_code 34 = .ok (.dup, 1) := by decide +kernel
theorem d10_35 : decode jdk_68_method_22_code 35 = .ok (.getfield 79, 3) := by decide +kernel
theorem d10_38 : decode jdk_68_method_22_code 38 = .ok (.iload_n 2, 1) := by decide +kernel
theorem d10_39 : decode jdk_68_method_22_code 39 = .ok (.iadd, 1) := by decide +kernel
theorem d10_40 : decode jdk_68_method_22_code 40 = .ok (.putfield 79, 3) := by decide +kernel
theorem d10_43 : decode jdk_68_method_22_code 43 = .ok (.aload_n 0, 1) := by decide +kernel
theorem d10_44 : decode jdk_68_method_22_code 44 = .ok (.areturn, 1) := by decide +kernel
theorem pn_39640229 : plainFor (⟨"java/lang/AbstractStringBuilder", "append", "(Ljava/lang/String;)Ljava/lang/AbstractStringBuilder;"⟩ : MethodName) = true := by first | exact plainFor_of_name (by first | (simp [plainName, overriddenIn]; done) | decide +kernel) | decide +kernel
set_option maxRecDepth 65536 in
set_option maxHeartbeats 4000000 in
theorem ct_aap (G : Own.Gx) (hw : ∀ d ∈ tables_1, d.before G.a0 G.Z = true) (hC : Own.CSt G) {As : List Own.Ent} {Li : List Own.LitE} (o b : Addr) (xs : List Int32) (cap : Nat) (hxc : xs.length ≤ cap) (hcap : cap ≤ 4000) (s : Addr) (ys : List Int32) (hs : Own.StrF As s (ys.map Value.int)) (N : Nat) (hl : xs.length + ys.length ≤ 4000) (hN : Own.grow cap (xs.length + ys.length) ≤ N) (hN4 : N ≤ 4000) :
    Own.Ct G [] (⟨"java/lang/AbstractStringBuilder", "append", "(Ljava/lang/String;)Ljava/lang/AbstractStringBuilder;"⟩ : MethodName) jdk_68_method_22_code 3 (some (.object "java/lang/AbstractStringBuilder")) ({ frames := 4, cells := 1, slots := N, locals := 62 } : Room) [.ref o, .ref s] ((o, true, Own.obj "java/lang/StringBuilder" F_java_lang_StringBuilder [.ref b, .int 0, .int xs.length.toInt32, .int 0]) :: (b, true, Own.arr .byte (Own.pad xs cap)) :: As) Li (fun v A L => ∃ b2 A0, v = some (.ref o) ∧ A = ((o, true, Own.obj "java/lang/StringBuilder" F_java_lang_StringBuilder [.ref b2, .int 0, .int (xs ++ ys).length.toInt32, .int 0]) :: (b2, true, Own.arr .byte (Own.pad (xs ++ ys) (Own.grow cap (xs.length + ys.length)))) :: A0) ∧ Own.Sub As A0 ∧ Li = L) := by
  refine Own.Ct.intro pn_39640229 (Ls := [.val (.ref o), .val (.ref s), .unset]) rfl rfl ?_
  intro K
  refine Own.W.aloadN (pc := 0) d10_0 rfl rfl ?_
  refine Own.W.nonnullY (pc := 1) 9 d10_1 (by decide) (by decide) ?_
  refine Own.W.aloadN (pc := 9) d10_9 rfl rfl ?_
  refine Own.W.callV (pc := 10) (ct_slen G hw hC s _ ys.length.toInt32 (hs.sub (Own.Sub.cons (Own.Sub.cons (Own.Sub.refl _)))).str (by simp)) d10_10 (C := "java/lang/String") (hs.sub (Own.Sub.cons (Own.Sub.cons (Own.Sub.refl _)))).is (hw _ (List.mem_of_getElem? (i := 67) rfl)) (hw _ (List.mem_of_getElem? (i := 68) rfl)) (Own.nf_sel (hw _ (List.mem_of_getElem? (i := 70) rfl))) (hw _ (List.mem_of_getElem? (i := 70) rfl)) (hw _ (List.mem_of_getElem? (i := 69) rfl)) (hw _ (List.mem_of_getElem? (i := 7) rfl)) (hw _ (List.mem_of_getElem? (i := 71) rfl)) (by decide) pd_93421983 rfl rfl (Nat.le_of_ble_eq_true rfl) (Nat.le_of_ble_eq_true rfl) (by first | exact Nat.le_of_ble_eq_true rfl | (simp; done) | (simp; omega)) (by first | exact Nat.le_of_ble_eq_true rfl | (simp; done) | (simp; omega)) ?_
  rintro _ _ _ ⟨rfl, rfl, rfl⟩
  refine Own.W.istoreN (pc := 13) (Ls' := [_, _, _]) d10_13 rfl rfl ?_
  refine Own.W.aloadN (pc := 14) d10_14 rfl rfl ?_
  refine Own.W.aloadN (pc := 15) d10_15 rfl rfl ?_
  refine Own.W.getF (pc := 16) (host := "") (Or.inl (hw _ (List.mem_of_getElem? (i := 78) rfl))) (Via.refl (O := "java/lang/AbstractStringBuilder")) d10_16 (by repeat (first | exact List.Mem.head _ | assumption | exact List.mem_append_right _ (List.Mem.head _) | apply List.Mem.tail)) (by repeat (first | exact Own.FAt.head | apply Own.FAt.tail)) ?_
  refine Own.W.iloadN (pc := 19) d10_19 rfl ?_
  refine Own.W.iadd (pc := 20) d10_20 (z := (xs.length + ys.length).toInt32) (Own.n_add _ _) ?_
  refine Own.W.callV (pc := 21) (ct_eci G hw o b xs cap hxc hcap (xs.length + ys.length) N hl hN hN4) d10_21 (C := "java/lang/StringBuilder") (Own.Is.mem (List.Mem.head _)) (hw _ (List.mem_of_getElem? (i := 80) rfl)) (Own.decl_of (hw _ (List.mem_of_getElem? (i := 81) rfl)) (hw _ (List.mem_of_getElem? (i := 84) rfl))) (Own.nf_sel (hw _ (List.mem_of_getElem? (i := 83) rfl))) (hw _ (List.mem_of_getElem? (i := 83) rfl)) (hw _ (List.mem_of_getElem? (i := 81) rfl)) (hw _ (List.mem_of_getElem? (i := 48) rfl)) (hw _ (List.mem_of_getElem? (i := 84) rfl)) (by decide) pd_87992021 rfl rfl (Nat.le_of_ble_eq_true rfl) (Nat.le_of_ble_eq_true rfl) (by first | exact Nat.le_of_ble_eq_true rfl | (simp; done) | (simp; omega)) (by first | exact Nat.le_of_ble_eq_true rfl | (simp; done) | (simp; omega)) ?_
  rintro _ _ _ ⟨b2, A0, rfl, rfl, hsub, rfl⟩
  have hge : xs.length + ys.length ≤ (Own.grow cap (xs.length + ys.length)) := Own.grow_ge
  refine Own.W.aloadN (pc := 24) d10_24 rfl rfl ?_
  refine Own.W.aloadN (pc := 25) d10_25 rfl rfl ?_
  refine Own.W.getF (pc := 26) (host := "") (Or.inl (hw _ (List.mem_of_getElem? (i := 78) rfl))) (Via.refl (O := "java/lang/AbstractStringBuilder")) d10_26 (by repeat (first | exact List.Mem.head _ | assumption | exact List.mem_append_right _ (List.Mem.head _) | apply List.Mem.tail)) (by repeat (first | exact Own.FAt.head | apply Own.FAt.tail)) ?_
  refine Own.W.aloadN (pc := 29) d10_29 rfl rfl ?_
  refine Own.W.callV (pc := 30) (ct_psa G hw hC o b2 xs (Own.grow cap (xs.length + ys.length)) (by omega) (by omega) s ys (hs.sub hsub) hge) d10_30 (C := "java/lang/StringBuilder") (Own.Is.mem (List.Mem.head _)) (hw _ (List.mem_of_getElem? (i := 85) rfl)) (Own.decl_of (hw _ (List.mem_of_getElem? (i := 86) rfl)) (hw _ (List.mem_of_getElem? (i := 89) rfl))) (Own.nf_sel (hw _ (List.mem_of_getElem? (i := 88) rfl))) (hw _ (List.mem_of_getElem? (i := 88) rfl)) (hw _ (List.mem_of_getElem? (i := 86) rfl)) (hw _ (List.mem_of_getElem? (i := 48) rfl)) (hw _ (List.mem_of_getElem? (i := 89) rfl)) (by decide) pd_62292757 rfl rfl (Nat.le_of_ble_eq_true rfl) (Nat.le_of_ble_eq_true rfl) (by first | exact Nat.le_of_ble_eq_true rfl | (simp; done) | (simp; omega)) (by first | exact Nat.le_of_ble_eq_true rfl | (simp; done) | (simp; omega)) ?_
  rintro _ _ _ ⟨rfl, rfl, rfl⟩
  refine Own.W.aloadN (pc := 33) d10_33 rfl rfl ?_
  refine Own.W.dup (pc := 34) d10_34 rfl ?_
  refine Own.W.getF (pc := 35) (host := "") (Or.inl (hw _ (List.mem_of_getElem? (i := 78) rfl))) (Via.refl (O := "java/lang/AbstractStringBuilder")) d10_35 (by repeat (first | exact List.Mem.head _ | assumption | exact List.mem_append_right _ (List.Mem.head _) | apply List.Mem.tail)) (by repeat (first | exact Own.FAt.head | apply Own.FAt.tail)) ?_
  refine Own.W.iloadN (pc := 38) d10_38 rfl ?_
  refine Own.W.iadd (pc := 39) d10_39 (z := (xs ++ ys).length.toInt32) (by rw [Own.n_add, List.length_append]) ?_
  refine Own.W.putF (pc := 40) (host := "") (Or.inl (hw _ (List.mem_of_getElem? (i := 78) rfl))) (Via.refl (O := "java/lang/AbstractStringBuilder")) d10_40 (Or.inl (hw _ (List.mem_of_getElem? (i := 79) rfl))) (hw _ (List.mem_of_getElem? (i := 39) rfl)) (ty := .int) (by decide) rfl rfl (by repeat (first | exact Own.Upd.head | exact Own.Upd.mid | apply Own.Upd.tail)) (by repeat (first | exact Own.FUp.head | apply Own.FUp.tail)) ?_
  refine Own.W.aloadN (pc := 43) d10_43 rfl rfl ?_
  refine Own.W.aret (pc := 44) d10_44 rfl rfl rfl ?_ (by first | exact Nat.le_of_ble_eq_true rfl | (simp; done) | (simp; omega)) (by first | exact Nat.le_of_ble_eq_true rfl | (simp; done) | (simp; omega))
  exact ⟨b2, A0, rfl, rfl, hsub, rfl⟩
theorem d9_0 : decode jdk_67_method_7_code 0 = .ok (.aload_n 0, 1) := by decide +kernel
theorem d9_1 : decode jdk_67_method_7_code 1 = .ok (.aload_n 1, 1) := by decide +kernel
theorem d9_2 : decode jdk_67_method_7_code 2 = .ok (.invokespecial 29, 3) := by decide +kernel
theorem pd_29712177 : parseMethodDescriptor "(Ljava/lang/String;)Ljava/lang/AbstractStringBuilder;" = some ⟨[(.object "java/lang/String")], some (.object "java/lang/AbstractStringBuilder")⟩ := by decide +kernel
theorem d9_5 : decode jdk_67_method_7_code 5 = .ok (.pop, 1) := by decide +kernel
theorem d9_6 : decode jdk_67_method_7_code 6 = .ok (.aload_n 0, 1) := by decide +kernel
theorem d9_7 : decode jdk_67_method_7_code 7 = .ok (.areturn, 1) := by decide +kernel
theorem pn_12648445 : plainFor (⟨"java/lang/StringBuilder", "append", "(Ljava/lang/String;)Ljava/lang/StringBuilder;"⟩ : MethodName) = true := by first | exact plainFor_of_name (by first | (simp [plainName, overriddenIn]; done) | decide +kernel) | decide +kernel
set_option maxRecDepth 65536 in
set_option maxHeartbeats 4000000 in
theorem ct_app (G : Own.Gx) (hw : ∀ d ∈ tables_1, d.before G.a0 G.Z = true) (hC : Own.CSt G) {As : List Own.Ent} {Li : List Own.LitE} (o b : Addr) (xs : List Int32) (cap : Nat) (hxc : xs.length ≤ cap) (hcap : cap ≤ 4000) (s : Addr) (ys : List Int32) (hs : Own.StrF As s (ys.map Value.int)) (N : Nat) (hl : xs.length + ys.length ≤ 4000) (hN : Own.grow cap (xs.length + ys.length) ≤ N) (hN4 : N ≤ 4000) :
    Own.Ct G [] (⟨"java/lang/StringBuilder", "append", "(Ljava/lang/String;)Ljava/lang/StringBuilder;"⟩ : MethodName) jdk_67_method_7_code 2 (some (.object "java/lang/StringBuilder")) ({ frames := 5, cells := 1, slots := N, locals := 76 } : Room) [.ref o, .ref s] ((o, true, Own.obj "java/lang/StringBuilder" F_java_lang_StringBuilder [.ref b, .int 0, .int xs.length.toInt32, .int 0]) :: (b, true, Own.arr .byte (Own.pad xs cap)) :: As) Li (fun v A L => ∃ b2 A0, v = some (.ref o) ∧ A = ((o, true, Own.obj "java/lang/StringBuilder" F_java_lang_StringBuilder [.ref b2, .int 0, .int (xs ++ ys).length.toInt32, .int 0]) :: (b2, true, Own.arr .byte (Own.pad (xs ++ ys) (Own.grow cap (xs.length + ys.length)))) :: A0) ∧ Own.Sub As A0 ∧ Li = L) := by
  refine Own.Ct.intro pn_12648445 (Ls := [.val (.ref o), .val (.ref s)]) rfl rfl ?_
  intro K
  refine Own.W.aloadN (pc := 0) d9_0 rfl rfl ?_
  refine Own.W.aloadN (pc := 1) d9_1 rfl rfl ?_
  refine Own.W.callX (pc := 2) (ct_aap G hw hC o b xs cap hxc hcap s ys hs N hl hN hN4) d9_2 (C := "java/lang/StringBuilder") (Own.Is.mem (List.Mem.head _)) (hw _ (List.mem_of_getElem? (i := 62) rfl)) (Own.same_of (hw _ (List.mem_of_getElem? (i := 63) rfl)) (hw _ (List.mem_of_getElem? (i := 83) rfl)) rfl (by decide)) (hw _ (List.mem_of_getElem? (i := 63) rfl)) (hw _ (List.mem_of_getElem? (i := 64) rfl)) (by decide) (hw _ (List.mem_of_getElem? (i := 48) rfl)) (hw _ (List.mem_of_getElem? (i := 66) rfl)) pd_29712177 rfl rfl (Nat.le_of_ble_eq_true rfl) (Nat.le_of_ble_eq_true rfl) (by first | exact Nat.le_of_ble_eq_true rfl | (simp; done) | (simp; omega)) (by first | exact Nat.le_of_ble_eq_true rfl | (simp; done) | (simp; omega)) ?_
  rintro _ _ _ ⟨b2, A0, rfl, rfl, hsub, rfl⟩
  refine Own.W.pop (pc := 5) d9_5 rfl ?_
  refine Own.W.aloadN (pc := 6) d9_6 rfl rfl ?_
  refine Own.W.aret (pc := 7) d9_7 rfl rfl rfl ?_ (by first | exact Nat.le_of_ble_eq_true rfl | (simp; done) | (simp; omega)) (by first | exact Nat.le_of_ble_eq_true rfl | (simp; done) | (simp; omega))
  exact ⟨b2, A0, rfl, rfl, hsub, rfl⟩
theorem d20_0 : decode jdk_68_method_64_code 0 = .ok (.aload_n 0, 1) := by decide +kernel
theorem d20_1 : decode jdk_68_method_64_code 1 = .ok (.getfield 15, 3) := by decide +kernel
theorem d20_4 : decode jdk_68_method_64_code 4 = .ok (.areturn, 1) := by decide +kernel
theorem pn_61978220 : plainFor (⟨"java/lang/AbstractStringBuilder", "getValue", "()[B"⟩ : MethodName) = true := by first | exact plainFor_of_name (by first | (simp [plainName, overriddenIn]; done) | decide +kernel) | decide +kernel
set_option maxRecDepth 65536 in
set_option maxHeartbeats 4000000 in
theorem ct_sgv (G : Own.Gx) (hw : ∀ d ∈ tables_1, d.before G.a0 G.Z = true) {As : List Own.Ent} {Li : List Own.LitE} (o b : Addr) (n : Int32) {w : Bool} (hm : (o, w, Own.obj "java/lang/StringBuilder" F_java_lang_StringBuilder [.ref b, .int 0, .int n, .int 0]) ∈ As) :
    Own.Ct G [] (⟨"java/lang/AbstractStringBuilder", "getValue", "()[B"⟩ : MethodName) jdk_68_method_64_code 1 (some (.array .byte)) ({ frames := 0, cells := 0, slots := 0, locals := 0 } : Room) [.ref o] As Li (fun v A L => v = some (.ref b) ∧ As = A ∧ Li = L) := by
  refine Own.Ct.intro pn_61978220 (Ls := [.val (.ref o)]) rfl rfl ?_
  intro K
  refine Own.W.aloadN (pc := 0) d20_0 rfl rfl ?_
  refine Own.W.getF (pc := 1) (host := "") (Or.inl (hw _ (List.mem_of_getElem? (i := 52) rfl))) (Via.refl (O := "java/lang/AbstractStringBuilder")) d20_1 (by repeat (first | exact List.Mem.head _ | assumption | exact List.mem_append_right _ (List.Mem.head _) | apply List.Mem.tail)) (by repeat (first | exact Own.FAt.head | apply Own.FAt.tail)) ?_
  refine Own.W.aret (pc := 4) d20_4 rfl rfl rfl ?_ (Nat.le_of_ble_eq_true rfl) (Nat.le_of_ble_eq_true rfl)
  exact ⟨rfl, rfl, rfl⟩
theorem d22_0 : decode jdk_68_method_6_code 0 = .ok (.aload_n 0, 1) := by decide +kernel
theorem d22_1 : decode jdk_68_method_6_code 1 = .ok (.getfield 79, 3) := by decide +kernel
theorem d22_4 : decode jdk_68_method_6_code 4 = .ok (.ireturn, 1) := by decide +kernel
theorem pn_72432637 : plainFor (⟨"java/lang/AbstractStringBuilder", "length", "()I"⟩ : MethodName) = true := by first | exact plainFor_of_name (by first | (simp [plainName, overriddenIn]; done) | decide +kernel) | decide +kernel
set_option maxRecDepth 65536 in
set_option maxHeartbeats 4000000 in
theorem ct_sl0 (G : Own.Gx) (hw : ∀ d ∈ tables_1, d.before G.a0 G.Z = true) {As : List Own.Ent} {Li : List Own.LitE} (o b : Addr) (n : Int32) {w : Bool} (hm : (o, w, Own.obj "java/lang/StringBuilder" F_java_lang_StringBuilder [.ref b, .int 0, .int n, .int 0]) ∈ As) :
    Own.Ct G [] (⟨"java/lang/AbstractStringBuilder", "length", "()I"⟩ : MethodName) jdk_68_method_6_code 1 (some .int) ({ frames := 0, cells := 0, slots := 0, locals := 0 } : Room) [.ref o] As Li (fun v A L => v = some (.int n) ∧ As = A ∧ Li = L) := by
  refine Own.Ct.intro pn_72432637 (Ls := [.val (.ref o)]) rfl rfl ?_
  intro K
  refine Own.W.aloadN (pc := 0) d22_0 rfl rfl ?_
  refine Own.W.getF (pc := 1) (host := "") (Or.inl (hw _ (List.mem_of_getElem? (i := 78) rfl))) (Via.refl (O := "java/lang/AbstractStringBuilder")) d22_1 (by repeat (first | exact List.Mem.head _ | assumption | exact List.mem_append_right _ (List.Mem.head _) | apply List.Mem.tail)) (by repeat (first | exact Own.FAt.head | apply Own.FAt.tail)) ?_
  refine Own.W.iret (pc := 4) d22_4 rfl (by simp) rfl ?_ (Nat.le_of_ble_eq_true rfl) (Nat.le_of_ble_eq_true rfl)
  exact ⟨rfl, rfl, rfl⟩
theorem d21_0 : decode jdk_67_method_93_code 0 = .ok (.aload_n 0, 1) := by decide +kernel
theorem d21_1 : decode jdk_67_method_93_code 1 = .ok (.invokespecial 343, 3) := by decide +kernel
theorem d21_4 : decode jdk_67_method_93_code 4 = .ok (.ireturn, 1) := by decide +kernel
theorem pn_47719209 : plainFor (⟨"java/lang/StringBuilder", "length", "()I"⟩ : MethodName) = true := by first | exact plainFor_of_name (by first | (simp [plainName, overriddenIn]; done) | decide +kernel) | decide +kernel
set_option maxRecDepth 65536 in
set_option maxHeartbeats 4000000 in
theorem ct_sl1 (G : Own.Gx) (hw : ∀ d ∈ tables_1, d.before G.a0 G.Z = true) {As : List Own.Ent} {Li : List Own.LitE} (o b : Addr) (n : Int32) {w : Bool} (hm : (o, w, Own.obj "java/lang/StringBuilder" F_java_lang_StringBuilder [.ref b, .int 0, .int n, .int 0]) ∈ As) :
    Own.Ct G [] (⟨"java/lang/StringBuilder", "length", "()I"⟩ : MethodName) jdk_67_method_93_code 1 (some .int) ({ frames := 1, cells := 0, slots := 0, locals := 12 } : Room) [.ref o] As Li (fun v A L => v = some (.int n) ∧ As = A ∧ Li = L) := by
  refine Own.Ct.intro pn_47719209 (Ls := [.val (.ref o)]) rfl rfl ?_
  intro K
  refine Own.W.aloadN (pc := 0) d21_0 rfl rfl ?_
  refine Own.W.callX (pc := 1) (ct_sl0 G hw o b n hm) d21_1 (C := "java/lang/StringBuilder") (Own.Is.mem hm) (hw _ (List.mem_of_getElem? (i := 128) rfl)) (Own.same_of (hw _ (List.mem_of_getElem? (i := 124) rfl)) (hw _ (List.mem_of_getElem? (i := 83) rfl)) rfl (by decide)) (hw _ (List.mem_of_getElem? (i := 124) rfl)) (hw _ (List.mem_of_getElem? (i := 64) rfl)) (by decide) (hw _ (List.mem_of_getElem? (i := 48) rfl)) (hw _ (List.mem_of_getElem? (i := 129) rfl)) pd_93421983 rfl rfl (Nat.le_of_ble_eq_true rfl) (Nat.le_of_ble_eq_true rfl) (Nat.le_of_ble_eq_true rfl) (Nat.le_of_ble_eq_true rfl) ?_
  rintro _ _ _ ⟨rfl, rfl, rfl⟩
  refine Own.W.iret (pc := 4) d21_4 rfl (by simp) rfl ?_ (Nat.le_of_ble_eq_true rfl) (Nat.le_of_ble_eq_true rfl)
  exact ⟨rfl, rfl, rfl⟩
theorem d23_0 : decode jdk_68_method_68_code 0 = .ok (.getstatic 18, 3) := by decide +kernel
theorem d23_3 : decode jdk_68_method_68_code 3 = .ok (.ifCond .eq 14, 3) := by decide +kernel
theorem d23_6 : decode jdk_68_method_68_code 6 = .ok (.aload_n 0, 1) := by decide +kernel
theorem d23_7 : decode jdk_68_method_68_code 7 = .ok (.getfield 22, 3) := by decide +kernel
theorem d23_10 : decode jdk_68_method_68_code 10 = .ok (.ifCond .ne 7, 3) := by decide +kernel
theorem d23_13 : decode jdk_68_method_68_code 13 = .ok (.iconst 1, 1) := by decide +kernel
theorem d23_14 : decode jdk_68_method_68_code 14 = .ok (.goto 4, 3) := by decide +kernel
theorem d23_18 : decode jdk_68_method_68_code 18 = .ok (.ireturn, 1) := by decide +kernel
theorem pn_26062833 : plainFor (⟨"java/lang/AbstractStringBuilder", "isLatin1", "()Z"⟩ : MethodName) = true := by first | exact plainFor_of_name (by first | (simp [plainName, overriddenIn]; done) | decide +kernel) | decide +kernel
set_option maxRecDepth 65536 in
set_option maxHeartbeats 4000000 in
theorem ct_sis (G : Own.Gx) (hw : ∀ d ∈ tables_1, d.before G.a0 G.Z = true) (hC : Own.CSt G) {As : List Own.Ent} {Li : List Own.LitE} (o b : Addr) (n : Int32) {w : Bool} (hm : (o, w, Own.obj "java/lang/StringBuilder" F_java_lang_StringBuilder [.ref b, .int 0, .int n, .int 0]) ∈ As) :
    Own.Ct G [] (⟨"java/lang/AbstractStringBuilder", "isLatin1", "()Z"⟩ : MethodName) jdk_68_method_68_code 1 (some .boolean) ({ frames := 0, cells := 0, slots := 0, locals := 0 } : Room) [.ref o] As Li (fun v A L => v = some (.int 1) ∧ As = A ∧ Li = L) := by
  refine Own.Ct.intro pn_26062833 (Ls := [.val (.ref o)]) rfl rfl ?_
  intro K
  obtain ⟨cz, hC1, hC2⟩ := hC
  refine Own.W.getS (pc := 0) (host := "") (Or.inl (hw _ (List.mem_of_getElem? (i := 51) rfl))) (Via.refl (O := "java/lang/String")) d23_0 hC1 ?_
  refine Own.W.if_eq (pc := 3) 17 d23_3 (by decide) (by decide) (fun h3 => absurd h3 hC2) ?_
  intro h3
  refine Own.W.aloadN (pc := 6) d23_6 rfl rfl ?_
  refine Own.W.getF (pc := 7) (host := "") (Or.inl (hw _ (List.mem_of_getElem? (i := 54) rfl))) (Via.refl (O := "java/lang/AbstractStringBuilder")) d23_7 (by repeat (first | exact List.Mem.head _ | assumption | exact List.mem_append_right _ (List.Mem.head _) | apply List.Mem.tail)) (by repeat (first | exact Own.FAt.head | apply Own.FAt.tail)) ?_
  refine Own.W.if_ne (pc := 10) 17 d23_10 (by decide) (by decide) (fun h10 => absurd h10 (fun q => q rfl)) ?_
  intro h10
  refine Own.W.iconst (pc := 13) (z := (1 : Int32)) d23_13 (by decide) ?_
  refine Own.W.goto (pc := 14) 18 d23_14 (by decide) (by decide) ?_
  refine Own.W.iret (pc := 18) d23_18 rfl (by simp) (by first | rfl | decide) ?_ (Nat.le_of_ble_eq_true rfl) (Nat.le_of_ble_eq_true rfl)
  exact ⟨rfl, rfl, rfl⟩
theorem d19_0 : decode jdk_42_method_150_code 0 = .ok (.aload_n 0, 1) := by decide +kernel
theorem d19_1 : decode jdk_42_method_150_code 1 = .ok (.invokespecial 1, 3) := by decide +kernel
theorem d19_4 : decode jdk_42_method_150_code 4 = .ok (.aload_n 1, 1) := by decide +kernel
theorem d19_5 : decode jdk_42_method_150_code 5 = .ok (.invokevirtual 552, 3) := by decide +kernel
theorem pd_87958803 : parseMethodDescriptor "()[B" = some ⟨[], some (.array .byte)⟩ := by decide +kernel
theorem d19_8 : decode jdk_42_method_150_code 8 = .ok (.astore_n 3, 1) := by decide +kernel
theorem d19_9 : decode jdk_42_method_150_code 9 = .ok (.aload_n 1, 1) := by decide +kernel
theorem d19_10 : decode jdk_42_method_150_code 10 = .ok (.invokevirtual 549, 3) := by decide +kernel
theorem d19_13 : decode jdk_42_method_150_code 13 = .ok (.istore 4, 2) := by decide +kernel
theorem d19_15 : decode jdk_42_method_150_code 15 = .ok (.aload_n 1, 1) := by decide +kernel
theorem d19_16 : decode jdk_42_method_150_code 16 = .ok (.invokevirtual 1047, 3) := by decide +kernel
theorem pd_93422000 : parseMethodDescriptor "()Z" = some ⟨[], some .boolean⟩ := by decide +kernel
theorem d19_19 : decode jdk_42_method_150_code 19 = .ok (.ifCond .eq 22, 3) := by decide +kernel
theorem d19_22 : decode jdk_42_method_150_code 22 = .ok (.aload_n 0, 1) := by decide +kernel
theorem d19_23 : decode jdk_42_method_150_code 23 = .ok (.iconst 0, 1) := by decide +kernel
theorem d19_24 : decode jdk_42_method_150_code 24 = .ok (.putfield 15, 3) := by decide +kernel
theorem d19_27 : decode jdk_42_method_150_code 27 = .ok (.aload_n 0, 1) := by decide +kernel
theorem d19_28 : decode jdk_42_method_150_code 28 = .ok (.aload_n 3, 1) := by decide +kernel
theorem d19_29 : decode jdk_42_method_150_code 29 = .ok (.iconst 0, 1) := by decide +kernel
theorem d19_30 : decode jdk_42_method_150_code 30 = .ok (.iload 4, 2) := by decide +kernel
theorem d19_32 : decode jdk_42_method_150_code 32 = .ok (.invokestatic 54, 3) := by decide +kernel
theorem d19_35 : decode jdk_42_method_150_code 35 = .ok (.putfield 9, 3) := by decide +kernel
theorem d19_38 : decode jdk_42_method_150_code 38 = .ok (.goto 59, 3) := by decide +kernel
theorem d19_97 : decode jdk_42_method_150_code 97 = .ok (.return_, 1) := by decide +kernel
theorem pn_95129745 : plainFor (⟨"java/lang/String", "<init>", "(Ljava/lang/AbstractStringBuilder;Ljava/lang/Void;)V"⟩ : MethodName) = true := by first | exact plainFor_of_name (by first | (simp [plainName, overriddenIn]; done) | decide +kernel) | decide +kernel
set_option maxRecDepth 65536 in
set_option maxHeartbeats 4000000 in
theorem ct_ssv (G : Own.Gx) (hw : ∀ d ∈ tables_1, d.before G.a0 G.Z = true) (hC : Own.CSt G) {As : List Own.Ent} {Li : List Own.LitE} (s : Addr) (o b : Addr) (xs : List Int32) (cap : Nat) (hxc : xs.length ≤ cap) (hcap : cap ≤ 4000) (hne : xs.length ≤ cap) (N : Nat) (hN : xs.length ≤ N) (hN4 : N ≤ 4000) :
    Own.Ct G [] (⟨"java/lang/String", "<init>", "(Ljava/lang/AbstractStringBuilder;Ljava/lang/Void;)V"⟩ : MethodName) jdk_42_method_150_code 5 none ({ frames := 3, cells := 1, slots := N, locals := 49 } : Room) [.ref s, .ref o, .null] ((s, true, Own.obj "java/lang/String" F_java_lang_String [.null, .int 0]) :: (o, true, Own.obj "java/lang/StringBuilder" F_java_lang_StringBuilder [.ref b, .int 0, .int xs.length.toInt32, .int 0]) :: (b, true, Own.arr .byte (Own.pad xs cap)) :: As) Li (fun v A L => ∃ t, v = none ∧ A = (t, true, Own.arr .byte (xs.map Value.int)) :: (s, true, Own.obj "java/lang/String" F_java_lang_String [.ref t, .int 0]) :: (o, true, Own.obj "java/lang/StringBuilder" F_java_lang_StringBuilder [.ref b, .int 0, .int xs.length.toInt32, .int 0]) :: (b, true, Own.arr .byte (Own.pad xs cap)) :: As ∧ Li = L) := by
  refine Own.Ct.intro pn_95129745 (Ls := [.val (.ref s), .val (.ref o), .val (.null), .unset, .unset]) rfl rfl ?_
  intro K
  refine Own.W.aloadN (pc := 0) d19_0 rfl rfl ?_
  refine Own.W.callO (pc := 1) d19_1 (hw _ (List.mem_of_getElem? (i := 16) rfl)) (hw _ (List.mem_of_getElem? (i := 17) rfl)) (hw _ (List.mem_of_getElem? (i := 18) rfl)) (Nat.le_of_ble_eq_true rfl) (Nat.le_of_ble_eq_true rfl) ?_
  refine Own.W.aloadN (pc := 4) d19_4 rfl rfl ?_
  refine Own.W.callV (pc := 5) (ct_sgv G hw o b _ (List.Mem.tail _ (List.Mem.head _))) d19_5 (C := "java/lang/StringBuilder") (Own.Is.mem (List.Mem.tail _ (List.Mem.head _))) (hw _ (List.mem_of_getElem? (i := 117) rfl)) (hw _ (List.mem_of_getElem? (i := 118) rfl)) (Own.nf_sel (hw _ (List.mem_of_getElem? (i := 120) rfl))) (hw _ (List.mem_of_getElem? (i := 120) rfl)) (hw _ (List.mem_of_getElem? (i := 119) rfl)) (hw _ (List.mem_of_getElem? (i := 48) rfl)) (hw _ (List.mem_of_getElem? (i := 121) rfl)) (by decide) pd_87958803 rfl rfl (Nat.le_of_ble_eq_true rfl) (Nat.le_of_ble_eq_true rfl) (by first | exact Nat.le_of_ble_eq_true rfl | (simp; done) | (simp; omega)) (by first | exact Nat.le_of_ble_eq_true rfl | (simp; done) | (simp; omega)) ?_
  rintro _ _ _ ⟨rfl, rfl, rfl⟩
  refine Own.W.astoreN (pc := 8) (Ls' := [_, _, _, _, _]) d19_8 rfl rfl rfl ?_
  refine Own.W.aloadN (pc := 9) d19_9 rfl rfl ?_
  refine Own.W.callV (pc := 10) (ct_sl1 G hw o b _ (List.Mem.tail _ (List.Mem.head _))) d19_10 (C := "java/lang/StringBuilder") (Own.Is.mem (List.Mem.tail _ (List.Mem.head _))) (hw _ (List.mem_of_getElem? (i := 122) rfl)) (hw _ (List.mem_of_getElem? (i := 123) rfl)) (Own.nf_cls (hw _ (List.mem_of_getElem? (i := 83) rfl)) rfl) (hw _ (List.mem_of_getElem? (i := 125) rfl)) (hw _ (List.mem_of_getElem? (i := 126) rfl)) (hw _ (List.mem_of_getElem? (i := 40) rfl)) (hw _ (List.mem_of_getElem? (i := 127) rfl)) (by decide) pd_93421983 rfl rfl (Nat.le_of_ble_eq_true rfl) (Nat.le_of_ble_eq_true rfl) (by first | exact Nat.le_of_ble_eq_true rfl | (simp; done) | (simp; omega)) (by first | exact Nat.le_of_ble_eq_true rfl | (simp; done) | (simp; omega)) ?_
  rintro _ _ _ ⟨rfl, rfl, rfl⟩
  refine Own.W.istore (pc := 13) (Ls' := [_, _, _, _, _]) d19_13 rfl rfl ?_
  refine Own.W.aloadN (pc := 15) d19_15 rfl rfl ?_
  refine Own.W.callV (pc := 16) (ct_sis G hw hC o b _ (List.Mem.tail _ (List.Mem.head _))) d19_16 (C := "java/lang/StringBuilder") (Own.Is.mem (List.Mem.tail _ (List.Mem.head _))) (hw _ (List.mem_of_getElem? (i := 130) rfl)) (hw _ (List.mem_of_getElem? (i := 131) rfl)) (Own.nf_sel (hw _ (List.mem_of_getElem? (i := 133) rfl))) (hw _ (List.mem_of_getElem? (i := 133) rfl)) (hw _ (List.mem_of_getElem? (i := 132) rfl)) (hw _ (List.mem_of_getElem? (i := 48) rfl)) (hw _ (List.mem_of_getElem? (i := 134) rfl)) (by decide) pd_93422000 rfl rfl (Nat.le_of_ble_eq_true rfl) (Nat.le_of_ble_eq_true rfl) (by first | exact Nat.le_of_ble_eq_true rfl | (simp; done) | (simp; omega)) (by first | exact Nat.le_of_ble_eq_true rfl | (simp; done) | (simp; omega)) ?_
  rintro _ _ _ ⟨rfl, rfl, rfl⟩
  refine Own.W.if_eq (pc := 19) 41 d19_19 (by decide) (by decide) (fun h19 => absurd h19 (by decide)) ?_
  intro h19
  refine Own.W.aloadN (pc := 22) d19_22 rfl rfl ?_
  refine Own.W.iconst (pc := 23) (z := (0 : Int32)) d19_23 (by decide) ?_
  refine Own.W.putN (pc := 24) (hw _ (List.mem_of_getElem? (i := 26) rfl)) (Via.refl (O := "java/lang/String")) d19_24 (Or.inr ⟨(hw _ (List.mem_of_getElem? (i := 22) rfl)), rfl, rfl⟩) (hw _ (List.mem_of_getElem? (i := 6) rfl)) (ty := .byte) (by decide) rfl (by first | rfl | decide) (by repeat (first | exact Own.Upd.head | exact Own.Upd.mid | apply Own.Upd.tail)) (by repeat (first | exact Own.FUp.head | apply Own.FUp.tail)) ?_
  refine Own.W.aloadN (pc := 27) d19_27 rfl rfl ?_
  refine Own.W.aloadN (pc := 28) d19_28 rfl rfl ?_
  refine Own.W.iconst (pc := 29) (z := (0 : Int32)) d19_29 (by decide) ?_
  refine Own.W.iload (pc := 30) d19_30 rfl ?_
  refine Own.W.callS (pc := 32) (ct_cor G hw b _ xs.length N (by rw [Own.pad_len hxc]; exact hne) (by rw [Own.pad_len hxc]; omega) hN hN4 (List.Mem.tail _ (List.Mem.tail _ (List.Mem.head _)))) d19_32 (hw _ (List.mem_of_getElem? (i := 135) rfl)) (hw _ (List.mem_of_getElem? (i := 136) rfl)) (hw _ (List.mem_of_getElem? (i := 137) rfl)) (hw _ (List.mem_of_getElem? (i := 138) rfl)) (by decide) pd_47730210 rfl rfl (Nat.le_of_ble_eq_true rfl) (Nat.le_of_ble_eq_true rfl) (by first | exact Nat.le_of_ble_eq_true rfl | (simp; done) | (simp; omega)) (by first | exact Nat.le_of_ble_eq_true rfl | (simp; done) | (simp; omega)) ?_
  rintro _ _ _ ⟨t, rfl, rfl, rfl⟩
  refine Own.W.putF (pc := 35) (host := "") (Or.inl (hw _ (List.mem_of_getElem? (i := 25) rfl))) (Via.refl (O := "java/lang/String")) d19_35 (Or.inr ⟨(hw _ (List.mem_of_getElem? (i := 21) rfl)), rfl, rfl⟩) (hw _ (List.mem_of_getElem? (i := 6) rfl)) (ty := (.array .byte)) (by decide) rfl rfl (by repeat (first | exact Own.Upd.head | exact Own.Upd.mid | apply Own.Upd.tail)) (by repeat (first | exact Own.FUp.head | apply Own.FUp.tail)) ?_
  refine Own.W.goto (pc := 38) 97 d19_38 (by decide) (by decide) ?_
  rw [Own.pad_take]
  refine Own.W.vret (pc := 97) d19_97 rfl  ?_ (by first | exact Nat.le_of_ble_eq_true rfl | (simp; done) | (simp; omega)) (by first | exact Nat.le_of_ble_eq_true rfl | (simp; done) | (simp; omega))
  exact ⟨t, rfl, rfl, rfl⟩
theorem d18_0 : decode jdk_42_method_53_code 0 = .ok (.aload_n 0, 1) := by decide +kernel
theorem d18_1 : decode jdk_42_method_53_code 1 = .ok (.aload_n 1, 1) := by decide +kernel
theorem d18_2 : decode jdk_42_method_53_code 2 = .ok (.aconst_null, 1) := by decide +kernel
theorem d18_3 : decode jdk_42_method_53_code 3 = .ok (.invokespecial 489, 3) := by decide +kernel
theorem pd_35917794 : parseMethodDescriptor "(Ljava/lang/AbstractStringBuilder;Ljava/lang/Void;)V" = some ⟨[(.object "java/lang/AbstractStringBuilder"), (.object "java/lang/Void")], none⟩ := by decide +kernel
theorem d18_6 : decode jdk_42_method_53_code 6 = .ok (.return_, 1) := by decide +kernel
theorem pn_59478978 : plainFor (⟨"java/lang/String", "<init>", "(Ljava/lang/StringBuilder;)V"⟩ : MethodName) = true := by first | exact plainFor_of_name (by first | (simp [plainName, overriddenIn]; done) | decide +kernel) | decide +kernel
set_option maxRecDepth 65536 in
set_option maxHeartbeats 4000000 in
theorem ct_ssb (G : Own.Gx) (hw : ∀ d ∈ tables_1, d.before G.a0 G.Z = true) (hC : Own.CSt G) {As : List Own.Ent} {Li : List Own.LitE} (s : Addr) (o b : Addr) (xs : List Int32) (cap : Nat) (hxc : xs.length ≤ cap) (hcap : cap ≤ 4000) (hne : xs.length ≤ cap) (N : Nat) (hN : xs.length ≤ N) (hN4 : N ≤ 4000) :
    Own.Ct G [] (⟨"java/lang/String", "<init>", "(Ljava/lang/StringBuilder;)V"⟩ : MethodName) jdk_42_method_53_code 2 none ({ frames := 4, cells := 1, slots := N, locals := 65 } : Room) [.ref s, .ref o] ((s, true, Own.obj "java/lang/String" F_java_lang_String [.null, .int 0]) :: (o, true, Own.obj "java/lang/StringBuilder" F_java_lang_StringBuilder [.ref b, .int 0, .int xs.length.toInt32, .int 0]) :: (b, true, Own.arr .byte (Own.pad xs cap)) :: As) Li (fun v A L => ∃ t, v = none ∧ A = (t, true, Own.arr .byte (xs.map Value.int)) :: (s, true, Own.obj "java/lang/String" F_java_lang_String [.ref t, .int 0]) :: (o, true, Own.obj "java/lang/StringBuilder" F_java_lang_StringBuilder [.ref b, .int 0, .int xs.length.toInt32, .int 0]) :: (b, true, Own.arr .byte (Own.pad xs cap)) :: As ∧ Li = L) := by
  refine Own.Ct.intro pn_59478978 (Ls := [.val (.ref s), .val (.ref o)]) rfl rfl ?_
  intro K
  refine Own.W.aloadN (pc := 0) d18_0 rfl rfl ?_
  refine Own.W.aloadN (pc := 1) d18_1 rfl rfl ?_
  refine Own.W.aconstNull (pc := 2) d18_2 ?_
  refine Own.W.callI (pc := 3) (ct_ssv G hw hC s o b xs cap hxc hcap hne N hN hN4) d18_3 rfl (hw _ (List.mem_of_getElem? (i := 114) rfl)) (hw _ (List.mem_of_getElem? (i := 115) rfl)) (hw _ (List.mem_of_getElem? (i := 7) rfl)) (hw _ (List.mem_of_getElem? (i := 116) rfl)) (by decide) pd_35917794 rfl rfl (Nat.le_of_ble_eq_true rfl) (Nat.le_of_ble_eq_true rfl) (by first | exact Nat.le_of_ble_eq_true rfl | (simp; done) | (simp; omega)) (by first | exact Nat.le_of_ble_eq_true rfl | (simp; done) | (simp; omega)) ?_
  rintro _ _ _ ⟨t, rfl, rfl, rfl⟩
  refine Own.W.vret (pc := 6) d18_6 rfl  ?_ (by first | exact Nat.le_of_ble_eq_true rfl | (simp; done) | (simp; omega)) (by first | exact Nat.le_of_ble_eq_true rfl | (simp; done) | (simp; omega))
  exact ⟨t, rfl, rfl, rfl⟩
theorem d17_0 : decode jdk_67_method_42_code 0 = .ok (.new 18, 3) := by decide +kernel
theorem d17_3 : decode jdk_67_method_42_code 3 = .ok (.dup, 1) := by decide +kernel
theorem d17_4 : decode jdk_67_method_42_code 4 = .ok (.aload_n 0, 1) := by decide +kernel
theorem d17_5 : decode jdk_67_method_42_code 5 = .ok (.invokespecial 137, 3) := by decide +kernel
theorem pd_91813651 : parseMethodDescriptor "(Ljava/lang/StringBuilder;)V" = some ⟨[(.object "java/lang/StringBuilder")], none⟩ := by decide +kernel
theorem d17_8 : decode jdk_67_method_42_code 8 = .ok (.areturn, 1) := by decide +kernel
theorem pn_320280 : plainFor (⟨"java/lang/StringBuilder", "toString", "()Ljava/lang/String;"⟩ : MethodName) = true := by first | exact plainFor_of_name (by first | (simp [plainName, overriddenIn]; done) | decide +kernel) | decide +kernel
set_option maxRecDepth 65536 in
set_option maxHeartbeats 4000000 in
theorem ct_tos (G : Own.Gx) (hw : ∀ d ∈ tables_1, d.before G.a0 G.Z = true) (hC : Own.CSt G) {As : List Own.Ent} {Li : List Own.LitE} (o b : Addr) (xs : List Int32) (cap : Nat) (hxc : xs.length ≤ cap) (hcap : cap ≤ 4000) (hne : xs.length ≤ cap) (N : Nat) (hN : xs.length ≤ N) (hN4 : N ≤ 4000) :
    Own.Ct G [] (⟨"java/lang/StringBuilder", "toString", "()Ljava/lang/String;"⟩ : MethodName) jdk_67_method_42_code 1 (some (.object "java/lang/String")) ({ frames := 5, cells := 2, slots := (N + 4), locals := 79 } : Room) [.ref o] ((o, true, Own.obj "java/lang/StringBuilder" F_java_lang_StringBuilder [.ref b, .int 0, .int xs.length.toInt32, .int 0]) :: (b, true, Own.arr .byte (Own.pad xs cap)) :: As) Li (fun v A L => ∃ s, v = some (.ref s) ∧ Own.StrF A s (xs.map Value.int) ∧ Own.Sub As A ∧ Li = L) := by
  refine Own.Ct.intro pn_320280 (Ls := [.val (.ref o)]) rfl rfl ?_
  intro K
  refine Own.W.new (pc := 0) (hw _ (List.mem_of_getElem? (i := 110) rfl)) (hw _ (List.mem_of_getElem? (i := 6) rfl)) (hw _ (List.mem_of_getElem? (i := 7) rfl)) d17_0 (LF_java_lang_String G hw) (vs := [.null, .int 0]) (by decide) (by first | exact Nat.le_of_ble_eq_true rfl | (simp; done) | (simp; omega)) (by first | exact Nat.le_of_ble_eq_true rfl | (simp; done) | (simp; omega)) ?_
  intro o0
  refine Own.W.dup (pc := 3) d17_3 rfl ?_
  refine Own.W.aloadN (pc := 4) d17_4 rfl rfl ?_
  refine Own.W.callI (pc := 5) (ct_ssb G hw hC o0 o b xs cap hxc hcap hne N hN hN4) d17_5 rfl (hw _ (List.mem_of_getElem? (i := 111) rfl)) (hw _ (List.mem_of_getElem? (i := 112) rfl)) (hw _ (List.mem_of_getElem? (i := 7) rfl)) (hw _ (List.mem_of_getElem? (i := 113) rfl)) (by decide) pd_91813651 rfl rfl (Nat.le_of_ble_eq_true rfl) (Nat.le_of_ble_eq_true rfl) (by first | exact Nat.le_of_ble_eq_true rfl | (simp; done) | (simp; omega)) (by first | exact Nat.le_of_ble_eq_true rfl | (simp; done) | (simp; omega)) ?_
  rintro _ _ _ ⟨t, rfl, rfl, rfl⟩
  refine Own.W.frz Own.Frz.head ?_
  refine Own.W.frz (Own.Frz.tail Own.Frz.head) ?_
  refine Own.W.aret (pc := 8) d17_8 rfl rfl rfl ?_ (by first | exact Nat.le_of_ble_eq_true rfl | (simp; done) | (simp; omega)) (by first | exact Nat.le_of_ble_eq_true rfl | (simp; done) | (simp; omega))
  exact ⟨_, rfl, ⟨t, _, _, List.Mem.tail _ (List.Mem.head _), (by repeat (first | exact Own.FAt.head | apply Own.FAt.tail)), (by repeat (first | exact Own.FAt.head | apply Own.FAt.tail)), List.Mem.head _⟩, Own.Sub.cons (Own.Sub.cons (Own.Sub.cons (Own.Sub.cons (Own.Sub.refl _)))), rfl⟩
set_option maxRecDepth 65536 in
set_option maxHeartbeats 4000000 in
theorem ct_sgv1 (G : Own.Gx) (hw : ∀ d ∈ tables_1, d.before G.a0 G.Z = true) {As : List Own.Ent} {Li : List Own.LitE} (o b : Addr) (n : Int32) {w : Bool} (hm : (o, w, Own.obj "java/lang/StringBuilder" F_java_lang_StringBuilder [.ref b, .int 1, .int n, .int 0]) ∈ As) :
    Own.Ct G [] (⟨"java/lang/AbstractStringBuilder", "getValue", "()[B"⟩ : MethodName) jdk_68_method_64_code 1 (some (.array .byte)) ({ frames := 0, cells := 0, slots := 0, locals := 0 } : Room) [.ref o] As Li (fun v A L => v = some (.ref b) ∧ As = A ∧ Li = L) := by
  refine Own.Ct.intro pn_61978220 (Ls := [.val (.ref o)]) rfl rfl ?_
  intro K
  refine Own.W.aloadN (pc := 0) d20_0 rfl rfl ?_
  refine Own.W.getF (pc := 1) (host := "") (Or.inl (hw _ (List.mem_of_getElem? (i := 52) rfl))) (Via.refl (O := "java/lang/AbstractStringBuilder")) d20_1 (by repeat (first | exact List.Mem.head _ | assumption | exact List.mem_append_right _ (List.Mem.head _) | apply List.Mem.tail)) (by repeat (first | exact Own.FAt.head | apply Own.FAt.tail)) ?_
  refine Own.W.aret (pc := 4) d20_4 rfl rfl rfl ?_ (Nat.le_of_ble_eq_true rfl) (Nat.le_of_ble_eq_true rfl)
  exact ⟨rfl, rfl, rfl⟩
set_option maxRecDepth 65536 in
set_option maxHeartbeats 4000000 in
theorem ct_sl01 (G : Own.Gx) (hw : ∀ d ∈ tables_1, d.before G.a0 G.Z = true) {As : List Own.Ent} {Li : List Own.LitE} (o b : Addr) (n : Int32) {w : Bool} (hm : (o, w, Own.obj "java/lang/StringBuilder" F_java_lang_StringBuilder [.ref b, .int 1, .int n, .int 0]) ∈ As) :
    Own.Ct G [] (⟨"java/lang/AbstractStringBuilder", "length", "()I"⟩ : MethodName) jdk_68_method_6_code 1 (some .int) ({ frames := 0, cells := 0, slots := 0, locals := 0 } : Room) [.ref o] As Li (fun v A L => v = some (.int n) ∧ As = A ∧ Li = L) := by
  refine Own.Ct.intro pn_72432637 (Ls := [.val (.ref o)]) rfl rfl ?_
  intro K
  refine Own.W.aloadN (pc := 0) d22_0 rfl rfl ?_
  refine Own.W.getF (pc := 1) (host := "") (Or.inl (hw _ (List.mem_of_getElem? (i := 78) rfl))) (Via.refl (O := "java/lang/AbstractStringBuilder")) d22_1 (by repeat (first | exact List.Mem.head _ | assumption | exact List.mem_append_right _ (List.Mem.head _) | apply List.Mem.tail)) (by repeat (first | exact Own.FAt.head | apply Own.FAt.tail)) ?_
  refine Own.W.iret (pc := 4) d22_4 rfl (by simp) rfl ?_ (Nat.le_of_ble_eq_true rfl) (Nat.le_of_ble_eq_true rfl)
  exact ⟨rfl, rfl, rfl⟩
set_option maxRecDepth 65536 in
set_option maxHeartbeats 4000000 in
theorem ct_sl11 (G : Own.Gx) (hw : ∀ d ∈ tables_1, d.before G.a0 G.Z = true) {As : List Own.Ent} {Li : List Own.LitE} (o b : Addr) (n : Int32) {w : Bool} (hm : (o, w, Own.obj "java/lang/StringBuilder" F_java_lang_StringBuilder [.ref b, .int 1, .int n, .int 0]) ∈ As) :
    Own.Ct G [] (⟨"java/lang/StringBuilder", "length", "()I"⟩ : MethodName) jdk_67_method_93_code 1 (some .int) ({ frames := 1, cells := 0, slots := 0, locals := 12 } : Room) [.ref o] As Li (fun v A L => v = some (.int n) ∧ As = A ∧ Li = L) := by
  refine Own.Ct.intro pn_47719209 (Ls := [.val (.ref o)]) rfl rfl ?_
  intro K
  refine Own.W.aloadN (pc := 0) d21_0 rfl rfl ?_
  refine Own.W.callX (pc := 1) (ct_sl01 G hw o b n hm) d21_1 (C := "java/lang/StringBuilder") (Own.Is.mem hm) (hw _ (List.mem_of_getElem? (i := 128) rfl)) (Own.same_of (hw _ (List.mem_of_getElem? (i := 124) rfl)) (hw _ (List.mem_of_getElem? (i := 83) rfl)) rfl (by decide)) (hw _ (List.mem_of_getElem? (i := 124) rfl)) (hw _ (List.mem_of_getElem? (i := 64) rfl)) (by decide) (hw _ (List.mem_of_getElem? (i := 48) rfl)) (hw _ (List.mem_of_getElem? (i := 129) rfl)) pd_93421983 rfl rfl (Nat.le_of_ble_eq_true rfl) (Nat.le_of_ble_eq_true rfl) (Nat.le_of_ble_eq_true rfl) (Nat.le_of_ble_eq_true rfl) ?_
  rintro _ _ _ ⟨rfl, rfl, rfl⟩
  refine Own.W.iret (pc := 4) d21_4 rfl (by simp) rfl ?_ (Nat.le_of_ble_eq_true rfl) (Nat.le_of_ble_eq_true rfl)
  exact ⟨rfl, rfl, rfl⟩
theorem d23_17 : decode jdk_68_method_68_code 17 = .ok (.iconst 0, 1) := by decide +kernel
set_option maxRecDepth 65536 in
set_option maxHeartbeats 4000000 in
theorem ct_sis1 (G : Own.Gx) (hw : ∀ d ∈ tables_1, d.before G.a0 G.Z = true) (hC : Own.CSt G) {As : List Own.Ent} {Li : List Own.LitE} (o b : Addr) (n : Int32) {w : Bool} (hm : (o, w, Own.obj "java/lang/StringBuilder" F_java_lang_StringBuilder [.ref b, .int 1, .int n, .int 0]) ∈ As) :
    Own.Ct G [] (⟨"java/lang/AbstractStringBuilder", "isLatin1", "()Z"⟩ : MethodName) jdk_68_method_68_code 1 (some .boolean) ({ frames := 0, cells := 0, slots := 0, locals := 0 } : Room) [.ref o] As Li (fun v A L => v = some (.int 0) ∧ As = A ∧ Li = L) := by
  refine Own.Ct.intro pn_26062833 (Ls := [.val (.ref o)]) rfl rfl ?_
  intro K
  obtain ⟨cz, hC1, hC2⟩ := hC
  refine Own.W.getS (pc := 0) (host := "") (Or.inl (hw _ (List.mem_of_getElem? (i := 51) rfl))) (Via.refl (O := "java/lang/String")) d23_0 hC1 ?_
  refine Own.W.if_eq (pc := 3) 17 d23_3 (by decide) (by decide) (fun h3 => absurd h3 hC2) ?_
  intro h3
  refine Own.W.aloadN (pc := 6) d23_6 rfl rfl ?_
  refine Own.W.getF (pc := 7) (host := "") (Or.inl (hw _ (List.mem_of_getElem? (i := 54) rfl))) (Via.refl (O := "java/lang/AbstractStringBuilder")) d23_7 (by repeat (first | exact List.Mem.head _ | assumption | exact List.mem_append_right _ (List.Mem.head _) | apply List.Mem.tail)) (by repeat (first | exact Own.FAt.head | apply Own.FAt.tail)) ?_
  refine Own.W.if_ne (pc := 10) 17 d23_10 (by decide) (by decide) ?_ (fun h10 => absurd h10 (by decide))
  intro h10
  refine Own.W.iconst (pc := 17) (z := (0 : Int32)) d23_17 (by decide) ?_
  refine Own.W.iret (pc := 18) d23_18 rfl (by simp) (by first | rfl | decide) ?_ (Nat.le_of_ble_eq_true rfl) (Nat.le_of_ble_eq_true rfl)
  exact ⟨rfl, rfl, rfl⟩
set_option maxRecDepth 65536 in
set_option maxHeartbeats 4000000 in
theorem ct_slen1 (G : Own.Gx) (hw : ∀ d ∈ tables_1, d.before G.a0 G.Z = true) (hC : Own.CSt G) {As : List Own.Ent} {Li : List Own.LitE} (a : Addr) (vs : List Value) (n : Nat) (hn : vs.length = 2 * n) (hn4 : n ≤ 4000) (ha : Own.StrIn G As a vs 1) :
    Own.Ct G [] (⟨"java/lang/String", "length", "()I"⟩ : MethodName) jdk_42_method_54_code 1 (some .int) ({ frames := 1, cells := 0, slots := 0, locals := 13 } : Room) [.ref a] As Li (fun v A L => v = some (.int n.toInt32) ∧ As = A ∧ Li = L) := by
  refine Own.Ct.intro pn_17394242 (Ls := [.val (.ref a)]) rfl rfl ?_
  intro K
  obtain ⟨ab, a1, a2, a3, a4⟩ := id ha
  refine Own.W.aloadN (pc := 0) d11_0 rfl rfl ?_
  refine Own.W.getI (pc := 1) (host := "") (Or.inl (hw _ (List.mem_of_getElem? (i := 25) rfl))) (Via.refl (O := "java/lang/String")) d11_1 a2 ?_
  refine Own.W.alen (pc := 4) d11_4 a4 (z := (2 * n).toInt32) (by rw [hn]) ?_
  refine Own.W.aloadN (pc := 5) d11_5 rfl rfl ?_
  refine Own.W.callV (pc := 6) (ct_coder G hw hC a vs 1 rfl ha) d11_6 (C := "java/lang/String") ha.is (hw _ (List.mem_of_getElem? (i := 72) rfl)) (hw _ (List.mem_of_getElem? (i := 73) rfl)) (Own.nf_sel (hw _ (List.mem_of_getElem? (i := 75) rfl))) (hw _ (List.mem_of_getElem? (i := 75) rfl)) (hw _ (List.mem_of_getElem? (i := 74) rfl)) (hw _ (List.mem_of_getElem? (i := 7) rfl)) (hw _ (List.mem_of_getElem? (i := 76) rfl)) (by decide) pd_93421976 rfl rfl (Nat.le_of_ble_eq_true rfl) (Nat.le_of_ble_eq_true rfl) (Nat.le_of_ble_eq_true rfl) (Nat.le_of_ble_eq_true rfl) ?_
  rintro _ _ _ ⟨rfl, rfl, rfl⟩
  refine Own.W.ishr (pc := 9) d11_9 (z := n.toInt32) (Own.n_half (by omega)) ?_
  refine Own.W.iret (pc := 10) d11_10 rfl (by simp) rfl ?_ (Nat.le_of_ble_eq_true rfl) (Nat.le_of_ble_eq_true rfl)
  exact ⟨rfl, rfl, rfl⟩
theorem own_or3 {m n : Nat} (hm : m ≤ 4000) (hn : n ≤ 4000) : ¬ ((m.toInt32 ||| 0) ||| n.toInt32) < 0 := by
  have q := (c_orS (m.toInt32 ||| 0) n.toInt32).1
  have r := (c_orS m.toInt32 0).1
  rw [Own.n_toInt (by omega)] at q r
  have h0 : (0 : Int32).toInt = 0 := rfl
  have q' := q (r (by omega) (by rw [h0]; omega)) (by omega)
  rw [Int32.lt_iff_toInt_lt, h0]; omega
theorem d55_0 : decode jdk_41_method_13_code 0 = .ok (.iload_n 2, 1) := by decide +kernel
theorem d55_1 : decode jdk_41_method_13_code 1 = .ok (.iload_n 0, 1) := by decide +kernel
theorem d55_2 : decode jdk_41_method_13_code 2 = .ok (.ior, 1) := by decide +kernel
theorem d55_3 : decode jdk_41_method_13_code 3 = .ok (.iload_n 1, 1) := by decide +kernel
theorem d55_4 : decode jdk_41_method_13_code 4 = .ok (.ior, 1) := by decide +kernel
theorem d55_5 : decode jdk_41_method_13_code 5 = .ok (.ifCond .lt 10, 3) := by decide +kernel
theorem d55_8 : decode jdk_41_method_13_code 8 = .ok (.iload_n 1, 1) := by decide +kernel
theorem d55_9 : decode jdk_41_method_13_code 9 = .ok (.iload_n 2, 1) := by decide +kernel
theorem d55_10 : decode jdk_41_method_13_code 10 = .ok (.iload_n 0, 1) := by decide +kernel
theorem d55_11 : decode jdk_41_method_13_code 11 = .ok (.isub, 1) := by decide +kernel
theorem d55_12 : decode jdk_41_method_13_code 12 = .ok (.if_icmp .le 11, 3) := by decide +kernel
theorem d55_23 : decode jdk_41_method_13_code 23 = .ok (.iload_n 0, 1) := by decide +kernel
theorem d55_24 : decode jdk_41_method_13_code 24 = .ok (.ireturn, 1) := by decide +kernel
theorem pn_17916308 : plainFor (⟨"jdk/internal/util/Preconditions", "checkFromIndexSize", "(IIILjava/util/function/BiFunction;)I"⟩ : MethodName) = true := by first | exact plainFor_of_name (by first | (simp [plainName, overriddenIn]; done) | decide +kernel) | decide +kernel
set_option maxRecDepth 65536 in
set_option maxHeartbeats 4000000 in
theorem ct_pfs (G : Own.Gx) (hw : ∀ d ∈ tables_1, d.before G.a0 G.Z = true) {As : List Own.Ent} {Li : List Own.LitE} (n m : Nat) (f : Value) (hf : f.isRef = true) (h : n ≤ m) (hm : m ≤ 4000) :
    Own.Ct G [] (⟨"jdk/internal/util/Preconditions", "checkFromIndexSize", "(IIILjava/util/function/BiFunction;)I"⟩ : MethodName) jdk_41_method_13_code 4 (some .int) ({ frames := 0, cells := 0, slots := 0, locals := 0 } : Room) [.int 0, .int n.toInt32, .int m.toInt32, f] As Li (fun v A L => v = some (.int 0) ∧ As = A ∧ Li = L) := by
  refine Own.Ct.intro pn_17916308 (Ls := [.val (.int 0), .val (.int n.toInt32), .val (.int m.toInt32), .val (f)]) (by rcases ref_cases hf with rfl | ⟨_, rfl⟩ <;> rfl) rfl ?_
  intro K
  refine Own.W.iloadN (pc := 0) d55_0 rfl ?_
  refine Own.W.iloadN (pc := 1) d55_1 rfl ?_
  refine Own.W.ior (pc := 2) d55_2 rfl ?_
  refine Own.W.iloadN (pc := 3) d55_3 rfl ?_
  refine Own.W.ior (pc := 4) d55_4 rfl ?_
  refine Own.W.if_lt (pc := 5) 15 d55_5 (by decide) (by decide) (fun h5 => absurd h5 (own_or3 hm (by omega))) ?_
  intro h5
  refine Own.W.iloadN (pc := 8) d55_8 rfl ?_
  refine Own.W.iloadN (pc := 9) d55_9 rfl ?_
  refine Own.W.iloadN (pc := 10) d55_10 rfl ?_
  refine Own.W.isub (pc := 11) d55_11 (z := m.toInt32) (Int32.sub_zero _) ?_
  refine Own.W.ic_le (pc := 12) 23 d55_12 (by decide) (by decide) ?_ (fun h12 => absurd h12 (Own.n_nlt h (by omega)))
  intro h12
  refine Own.W.iloadN (pc := 23) d55_23 rfl ?_
  refine Own.W.iret (pc := 24) d55_24 rfl (by simp) rfl ?_ (Nat.le_of_ble_eq_true rfl) (Nat.le_of_ble_eq_true rfl)
  exact ⟨rfl, rfl, rfl⟩
theorem d54_0 : decode jdk_42_method_157_code 0 = .ok (.iload_n 0, 1) := by decide +kernel
theorem d54_1 : decode jdk_42_method_157_code 1 = .ok (.iload_n 1, 1) := by decide +kernel
theorem d54_2 : decode jdk_42_method_157_code 2 = .ok (.iload_n 2, 1) := by decide +kernel
theorem d54_3 : decode jdk_42_method_157_code 3 = .ok (.getstatic 1053, 3) := by decide +kernel
theorem d54_6 : decode jdk_42_method_157_code 6 = .ok (.invokestatic 1065, 3) := by decide +kernel
theorem pd_85157157 : parseMethodDescriptor "(IIILjava/util/function/BiFunction;)I" = some ⟨[.int, .int, .int, (.object "java/util/function/BiFunction")], some .int⟩ := by decide +kernel
theorem d54_9 : decode jdk_42_method_157_code 9 = .ok (.ireturn, 1) := by decide +kernel
theorem pn_75554216 : plainFor (⟨"java/lang/String", "checkBoundsOffCount", "(III)I"⟩ : MethodName) = true := by first | exact plainFor_of_name (by first | (simp [plainName, overriddenIn]; done) | decide +kernel) | decide +kernel
set_option maxRecDepth 65536 in
set_option maxHeartbeats 4000000 in
theorem ct_cbs (G : Own.Gx) (hw : ∀ d ∈ tables_1, d.before G.a0 G.Z = true) (hF : ∃ f : Value, Sta G.Z G.Z.heap "jdk/internal/util/Preconditions" "SIOOBE_FORMATTER" "Ljava/util/function/BiFunction;" f ∧ f.isRef = true) {As : List Own.Ent} {Li : List Own.LitE} (n m : Nat) (h : n ≤ m) (hm : m ≤ 4000) :
    Own.Ct G [] (⟨"java/lang/String", "checkBoundsOffCount", "(III)I"⟩ : MethodName) jdk_42_method_157_code 3 (some .int) ({ frames := 1, cells := 0, slots := 0, locals := 15 } : Room) [.int 0, .int n.toInt32, .int m.toInt32] As Li (fun v A L => v = some (.int 0) ∧ As = A ∧ Li = L) := by
  refine Own.Ct.intro pn_75554216 (Ls := [.val (.int 0), .val (.int n.toInt32), .val (.int m.toInt32)]) rfl rfl ?_
  intro K
  obtain ⟨f, hF1, hF2⟩ := hF
  refine Own.W.iloadN (pc := 0) d54_0 rfl ?_
  refine Own.W.iloadN (pc := 1) d54_1 rfl ?_
  refine Own.W.iloadN (pc := 2) d54_2 rfl ?_
  refine Own.W.getS (pc := 3) (host := "") (Or.inl (hw _ (List.mem_of_getElem? (i := 304) rfl))) (Via.refl (O := "jdk/internal/util/Preconditions")) d54_3 hF1 ?_
  refine Own.W.callS (pc := 6) (ct_pfs G hw n m f hF2 h hm) d54_6 (hw _ (List.mem_of_getElem? (i := 306) rfl)) (hw _ (List.mem_of_getElem? (i := 307) rfl)) (hw _ (List.mem_of_getElem? (i := 305) rfl)) (hw _ (List.mem_of_getElem? (i := 308) rfl)) (by decide) pd_85157157 rfl rfl (Nat.le_of_ble_eq_true rfl) (Nat.le_of_ble_eq_true rfl) (Nat.le_of_ble_eq_true rfl) (Nat.le_of_ble_eq_true rfl) ?_
  rintro _ _ _ ⟨rfl, rfl, rfl⟩
  refine Own.W.iret (pc := 9) d54_9 rfl (by simp) rfl ?_ (Nat.le_of_ble_eq_true rfl) (Nat.le_of_ble_eq_true rfl)
  exact ⟨rfl, rfl, rfl⟩
theorem d52_0 : decode jdk_52_method_94_code 0 = .ok (.iload_n 0, 1) := by decide +kernel
theorem d52_1 : decode jdk_52_method_94_code 1 = .ok (.iload_n 1, 1) := by decide +kernel
theorem d52_2 : decode jdk_52_method_94_code 2 = .ok (.aload_n 2, 1) := by decide +kernel
theorem d52_3 : decode jdk_52_method_94_code 3 = .ok (.invokestatic 48, 3) := by decide +kernel
theorem pd_84932636 : parseMethodDescriptor "([B)I" = some ⟨[(.array .byte)], some .int⟩ := by decide +kernel
theorem d52_6 : decode jdk_52_method_94_code 6 = .ok (.invokestatic 419, 3) := by decide +kernel
theorem d52_9 : decode jdk_52_method_94_code 9 = .ok (.pop, 1) := by decide +kernel
theorem d52_10 : decode jdk_52_method_94_code 10 = .ok (.return_, 1) := by decide +kernel
theorem pn_21644479 : plainFor (⟨"java/lang/StringUTF16", "checkBoundsOffCount", "(II[B)V"⟩ : MethodName) = true := by first | exact plainFor_of_name (by first | (simp [plainName, overriddenIn]; done) | decide +kernel) | decide +kernel
set_option maxRecDepth 65536 in
set_option maxHeartbeats 4000000 in
theorem ct_cbu (G : Own.Gx) (hw : ∀ d ∈ tables_1, d.before G.a0 G.Z = true) (hF : ∃ f : Value, Sta G.Z G.Z.heap "jdk/internal/util/Preconditions" "SIOOBE_FORMATTER" "Ljava/util/function/BiFunction;" f ∧ f.isRef = true) {As : List Own.Ent} {Li : List Own.LitE} (b : Addr) (vs : List Value) (n m : Nat) (h : n ≤ m) (hm4 : m ≤ 4000) (hv : vs.length = 2 * m) (hm : Own.AVin G As b .byte vs) :
    Own.Ct G [] (⟨"java/lang/StringUTF16", "checkBoundsOffCount", "(II[B)V"⟩ : MethodName) jdk_52_method_94_code 3 none ({ frames := 2, cells := 0, slots := 0, locals := 29 } : Room) [.int 0, .int n.toInt32, .ref b] As Li (fun v A L => v = none ∧ As = A ∧ Li = L) := by
  refine Own.Ct.intro pn_21644479 (Ls := [.val (.int 0), .val (.int n.toInt32), .val (.ref b)]) rfl rfl ?_
  intro K
  refine Own.W.iloadN (pc := 0) d52_0 rfl ?_
  refine Own.W.iloadN (pc := 1) d52_1 rfl ?_
  refine Own.W.aloadN (pc := 2) d52_2 rfl rfl ?_
  refine Own.W.callS (pc := 3) (ct_ule G hw b vs m hm4 hv hm) d52_3 (hw _ (List.mem_of_getElem? (i := 298) rfl)) (hw _ (List.mem_of_getElem? (i := 299) rfl)) (hw _ (List.mem_of_getElem? (i := 256) rfl)) (hw _ (List.mem_of_getElem? (i := 300) rfl)) (by decide) pd_84932636 rfl rfl (Nat.le_of_ble_eq_true rfl) (Nat.le_of_ble_eq_true rfl) (Nat.le_of_ble_eq_true rfl) (Nat.le_of_ble_eq_true rfl) ?_
  rintro _ _ _ ⟨rfl, rfl, rfl⟩
  refine Own.W.callS (pc := 6) (ct_cbs G hw hF n m h hm4) d52_6 (hw _ (List.mem_of_getElem? (i := 301) rfl)) (hw _ (List.mem_of_getElem? (i := 302) rfl)) (hw _ (List.mem_of_getElem? (i := 7) rfl)) (hw _ (List.mem_of_getElem? (i := 303) rfl)) (by decide) pd_86748538 rfl rfl (Nat.le_of_ble_eq_true rfl) (Nat.le_of_ble_eq_true rfl) (Nat.le_of_ble_eq_true rfl) (Nat.le_of_ble_eq_true rfl) ?_
  rintro _ _ _ ⟨rfl, rfl, rfl⟩
  refine Own.W.pop (pc := 9) d52_9 rfl ?_
  refine Own.W.vret (pc := 10) d52_10 rfl ?_ (Nat.le_of_ble_eq_true rfl) (Nat.le_of_ble_eq_true rfl)
  exact ⟨rfl, rfl, rfl⟩
theorem d51_0 : decode jdk_52_method_86_code 0 = .ok (.iload_n 3, 1) := by decide +kernel
theorem d51_1 : decode jdk_52_method_86_code 1 = .ok (.iload 4, 2) := by decide +kernel
theorem d51_3 : decode jdk_52_method_86_code 3 = .ok (.aload_n 2, 1) := by decide +kernel
theorem d51_4 : decode jdk_52_method_86_code 4 = .ok (.invokestatic 173, 3) := by decide +kernel
theorem pd_28800027 : parseMethodDescriptor "(II[B)V" = some ⟨[.int, .int, (.array .byte)], none⟩ := by decide +kernel
theorem d51_7 : decode jdk_52_method_86_code 7 = .ok (.iconst 0, 1) := by decide +kernel
theorem d51_8 : decode jdk_52_method_86_code 8 = .ok (.istore 5, 2) := by decide +kernel
theorem d51_10 : decode jdk_52_method_86_code 10 = .ok (.iload 5, 2) := by decide +kernel
theorem d51_12 : decode jdk_52_method_86_code 12 = .ok (.iload 4, 2) := by decide +kernel
theorem d51_14 : decode jdk_52_method_86_code 14 = .ok (.if_icmp .ge 27, 3) := by decide +kernel
theorem d51_41 : decode jdk_52_method_86_code 41 = .ok (.return_, 1) := by decide +kernel
theorem d51_17 : decode jdk_52_method_86_code 17 = .ok (.aload_n 2, 1) := by decide +kernel
theorem d51_18 : decode jdk_52_method_86_code 18 = .ok (.iload_n 3, 1) := by decide +kernel
theorem d51_19 : decode jdk_52_method_86_code 19 = .ok (.iinc 3 1, 3) := by decide +kernel
theorem d51_22 : decode jdk_52_method_86_code 22 = .ok (.aload_n 0, 1) := by decide +kernel
theorem d51_23 : decode jdk_52_method_86_code 23 = .ok (.iload_n 1, 1) := by decide +kernel
theorem d51_24 : decode jdk_52_method_86_code 24 = .ok (.iinc 1 1, 3) := by decide +kernel
theorem d51_27 : decode jdk_52_method_86_code 27 = .ok (.baload, 1) := by decide +kernel
theorem d51_28 : decode jdk_52_method_86_code 28 = .ok (.sipush 255, 3) := by decide +kernel
theorem d51_31 : decode jdk_52_method_86_code 31 = .ok (.iand, 1) := by decide +kernel
theorem d51_32 : decode jdk_52_method_86_code 32 = .ok (.invokestatic 111, 3) := by decide +kernel
theorem d51_35 : decode jdk_52_method_86_code 35 = .ok (.iinc 5 1, 3) := by decide +kernel
theorem d51_38 : decode jdk_52_method_86_code 38 = .ok (.goto (-28), 3) := by decide +kernel
theorem pn_99218651 : plainFor (⟨"java/lang/StringUTF16", "inflate", "([BI[BII)V"⟩ : MethodName) = true := by first | exact plainFor_of_name (by first | (simp [plainName, overriddenIn]; done) | decide +kernel) | decide +kernel
set_option maxRecDepth 65536 in
set_option maxHeartbeats 4000000 in
theorem ct_uin (G : Own.Gx) (hw : ∀ d ∈ tables_1, d.before G.a0 G.Z = true) (hF : ∃ f : Value, Sta G.Z G.Z.heap "jdk/internal/util/Preconditions" "SIOOBE_FORMATTER" "Ljava/util/function/BiFunction;" f ∧ f.isRef = true) (hV : U16s G) {As : List Own.Ent} {Li : List Own.LitE} (b o : Addr) (xs : List Int32) (cap : Nat) (hxc : xs.length ≤ cap) (hcap : 2 * cap ≤ 4000) (hm : Own.AVin G As b .byte (Own.pad xs cap)) :
    Own.Ct G [] (⟨"java/lang/StringUTF16", "inflate", "([BI[BII)V"⟩ : MethodName) jdk_52_method_86_code 6 none ({ frames := 3, cells := 0, slots := 0, locals := 43 } : Room) [.ref b, .int 0, .ref o, .int 0, .int xs.length.toInt32] ((o, true, Own.arr .byte (Own.pad [] (2 * cap))) :: As) Li (fun v A L => v = none ∧ A = (o, true, Own.arr .byte (Own.pad (Own.u16 (xs.map (· &&& 255))) (2 * cap))) :: As ∧ Li = L) := by
  refine Own.Ct.intro pn_99218651 (Ls := [.val (.ref b), .val (.int 0), .val (.ref o), .val (.int 0), .val (.int xs.length.toInt32), .unset]) rfl rfl ?_
  intro K
  obtain ⟨cs, hcs⟩ : ∃ cs, cs = xs.map (· &&& 255) := ⟨_, rfl⟩
  rw [← hcs]
  have hlc : cs.length = xs.length := by rw [hcs]; simp
  refine Own.W.iloadN (pc := 0) d51_0 rfl ?_
  refine Own.W.iload (pc := 1) d51_1 rfl ?_
  refine Own.W.aloadN (pc := 3) d51_3 rfl rfl ?_
  refine Own.W.callS (pc := 4) (ct_cbu G hw hF o _ xs.length cap hxc (by omega) (by rw [Own.pad_len (by simp)]) (Own.AVin.mem (List.Mem.head _))) d51_4 (hw _ (List.mem_of_getElem? (i := 295) rfl)) (hw _ (List.mem_of_getElem? (i := 296) rfl)) (hw _ (List.mem_of_getElem? (i := 256) rfl)) (hw _ (List.mem_of_getElem? (i := 297) rfl)) (by decide) pd_28800027 rfl rfl (Nat.le_of_ble_eq_true rfl) (Nat.le_of_ble_eq_true rfl) (Nat.le_of_ble_eq_true rfl) (Nat.le_of_ble_eq_true rfl) ?_
  rintro _ _ _ ⟨rfl, rfl, rfl⟩
  refine Own.W.iconst (pc := 7) (z := (0 : Int32)) d51_7 (by decide) ?_
  refine Own.W.istore (pc := 8) (Ls' := [_, _, _, _, _, _]) d51_8 rfl rfl ?_
  suffices loop : ∀ (m k : Nat), k + m = xs.length → Own.W G K (⟨"java/lang/StringUTF16", "inflate", "([BI[BII)V"⟩ : MethodName) jdk_52_method_86_code none ({ frames := 3, cells := 0, slots := 0, locals := 43 } : Room) (fun v A L => v = none ∧ A = (o, true, Own.arr .byte (Own.pad (Own.u16 cs) (2 * cap))) :: As ∧ Li = L) ((o, true, Own.arr .byte (Own.pad (Own.u16 (cs.take k)) (2 * cap))) :: As) Li 0 0 10 [.val (.ref b), .val (.int k.toInt32), .val (.ref o), .val (.int k.toInt32), .val (.int xs.length.toInt32), .val (.int k.toInt32)] [] from loop xs.length 0 (by simp)
  intro m
  induction m with
  | zero =>
    intro k hk
    obtain rfl : k = xs.length := by omega
    refine Own.W.iload (pc := 10) d51_10 rfl ?_
    refine Own.W.iload (pc := 12) d51_12 rfl ?_
    refine Own.W.ic_ge (pc := 14) 41 d51_14 (by decide) (by decide) ?_ (fun h14 => absurd h14 (Own.n_nlt (Nat.le_refl _) (by omega)))
    intro h14
    refine Own.W.vret (pc := 41) d51_41 rfl  ?_ (Nat.le_of_ble_eq_true rfl) (Nat.le_of_ble_eq_true rfl)
    exact ⟨rfl, by rw [← hlc, List.take_length], rfl⟩
  | succ m ih =>
    intro k hk
    have hkl : k < xs.length := by omega
    have hkc : k < cs.length := by omega
    refine Own.W.iload (pc := 10) d51_10 rfl ?_
    refine Own.W.iload (pc := 12) d51_12 rfl ?_
    refine Own.W.ic_ge (pc := 14) 41 d51_14 (by decide) (by decide) (fun h14 => absurd h14 (fun q => q (Own.n_lt hkl (by omega)))) ?_
    intro h14
    refine Own.W.aloadN (pc := 17) d51_17 rfl rfl ?_
    refine Own.W.iloadN (pc := 18) d51_18 rfl ?_
    refine Own.W.iinc (pc := 19) (z := (1 : Int32)) (Ls' := [_, _, _, _, _, _]) d51_19 rfl (by decide) rfl rfl ?_
    refine Own.W.aloadN (pc := 22) d51_22 rfl rfl ?_
    refine Own.W.iloadN (pc := 23) d51_23 rfl ?_
    refine Own.W.iinc (pc := 24) (z := (1 : Int32)) (Ls' := [_, _, _, _, _, _]) d51_24 rfl (by decide) rfl rfl ?_
    refine Own.W.baload (pc := 27) d51_27 (hm.sub (Own.Sub.cons (Own.Sub.refl _))) (Own.n_nn (by omega)) (v := .int xs[k]) (by rw [Own.n_clamp (by omega)]; simp [Own.pad, List.getElem?_append_left, hkl]) ?_
    refine Own.W.sipush (pc := 28) (z := (255 : Int32)) d51_28 (by decide) ?_
    refine Own.W.iand (pc := 31) d51_31 (z := cs[k]) (by simp [hcs]) ?_
    refine Own.W.callS (pc := 32) (ct_puc G hw hV o _ k (2 * cap) cs[k] (by rw [Own.u16_len, List.length_take]; omega) (by omega) (by omega)) d51_32 (hw _ (List.mem_of_getElem? (i := 271) rfl)) (hw _ (List.mem_of_getElem? (i := 272) rfl)) (hw _ (List.mem_of_getElem? (i := 256) rfl)) (hw _ (List.mem_of_getElem? (i := 273) rfl)) (by decide) pd_24296411 rfl rfl (Nat.le_of_ble_eq_true rfl) (Nat.le_of_ble_eq_true rfl) (Nat.le_of_ble_eq_true rfl) (Nat.le_of_ble_eq_true rfl) ?_
    rintro _ _ _ ⟨rfl, rfl, rfl⟩
    rw [Own.u16_take hkc]
    refine Own.W.iinc (pc := 35) (z := (1 : Int32)) (Ls' := [_, _, _, _, _, _]) d51_35 rfl (by decide) rfl rfl ?_
    refine Own.W.goto (pc := 38) 10 d51_38 (by decide) (by decide) ?_
    have ih' := ih (k + 1) (by omega)
    rw [← Own.n_succ] at ih'
    exact ih'
theorem d50_0 : decode jdk_43_method_50_code 0 = .ok (.aload_n 0, 1) := by decide +kernel
theorem d50_1 : decode jdk_43_method_50_code 1 = .ok (.iload_n 1, 1) := by decide +kernel
theorem d50_2 : decode jdk_43_method_50_code 2 = .ok (.aload_n 2, 1) := by decide +kernel
theorem d50_3 : decode jdk_43_method_50_code 3 = .ok (.iload_n 3, 1) := by decide +kernel
theorem d50_4 : decode jdk_43_method_50_code 4 = .ok (.iload 4, 2) := by decide +kernel
theorem d50_6 : decode jdk_43_method_50_code 6 = .ok (.invokestatic 240, 3) := by decide +kernel
theorem pd_10283553 : parseMethodDescriptor "([BI[BII)V" = some ⟨[(.array .byte), .int, (.array .byte), .int, .int], none⟩ := by decide +kernel
theorem d50_9 : decode jdk_43_method_50_code 9 = .ok (.return_, 1) := by decide +kernel
theorem pn_55001198 : plainFor (⟨"java/lang/StringLatin1", "inflate", "([BI[BII)V"⟩ : MethodName) = true := by first | exact plainFor_of_name (by first | (simp [plainName, overriddenIn]; done) | decide +kernel) | decide +kernel
set_option maxRecDepth 65536 in
set_option maxHeartbeats 4000000 in
theorem ct_lnf (G : Own.Gx) (hw : ∀ d ∈ tables_1, d.before G.a0 G.Z = true) (hF : ∃ f : Value, Sta G.Z G.Z.heap "jdk/internal/util/Preconditions" "SIOOBE_FORMATTER" "Ljava/util/function/BiFunction;" f ∧ f.isRef = true) (hV : U16s G) {As : List Own.Ent} {Li : List Own.LitE} (b o : Addr) (xs : List Int32) (cap : Nat) (hxc : xs.length ≤ cap) (hcap : 2 * cap ≤ 4000) (hm : Own.AVin G As b .byte (Own.pad xs cap)) :
    Own.Ct G [] (⟨"java/lang/StringLatin1", "inflate", "([BI[BII)V"⟩ : MethodName) jdk_43_method_50_code 5 none ({ frames := 4, cells := 0, slots := 0, locals := 60 } : Room) [.ref b, .int 0, .ref o, .int 0, .int xs.length.toInt32] ((o, true, Own.arr .byte (Own.pad [] (2 * cap))) :: As) Li (fun v A L => v = none ∧ A = (o, true, Own.arr .byte (Own.pad (Own.u16 (xs.map (· &&& 255))) (2 * cap))) :: As ∧ Li = L) := by
  refine Own.Ct.intro pn_55001198 (Ls := [.val (.ref b), .val (.int 0), .val (.ref o), .val (.int 0), .val (.int xs.length.toInt32)]) rfl rfl ?_
  intro K
  refine Own.W.aloadN (pc := 0) d50_0 rfl rfl ?_
  refine Own.W.iloadN (pc := 1) d50_1 rfl ?_
  refine Own.W.aloadN (pc := 2) d50_2 rfl rfl ?_
  refine Own.W.iloadN (pc := 3) d50_3 rfl ?_
  refine Own.W.iload (pc := 4) d50_4 rfl ?_
  refine Own.W.callS (pc := 6) (ct_uin G hw hF hV b o xs cap hxc hcap hm) d50_6 (hw _ (List.mem_of_getElem? (i := 292) rfl)) (hw _ (List.mem_of_getElem? (i := 293) rfl)) (hw _ (List.mem_of_getElem? (i := 256) rfl)) (hw _ (List.mem_of_getElem? (i := 294) rfl)) (by decide) pd_10283553 rfl rfl (Nat.le_of_ble_eq_true rfl) (Nat.le_of_ble_eq_true rfl) (Nat.le_of_ble_eq_true rfl) (Nat.le_of_ble_eq_true rfl) ?_
  rintro _ _ _ ⟨rfl, rfl, rfl⟩
  refine Own.W.vret (pc := 9) d50_9 rfl ?_ (Nat.le_of_ble_eq_true rfl) (Nat.le_of_ble_eq_true rfl)
  exact ⟨rfl, rfl, rfl⟩
theorem d49_0 : decode jdk_68_method_11_code 0 = .ok (.aload_n 0, 1) := by decide +kernel
theorem d49_1 : decode jdk_68_method_11_code 1 = .ok (.invokevirtual 83, 3) := by decide +kernel
theorem d49_4 : decode jdk_68_method_11_code 4 = .ok (.ifCond .ne 4, 3) := by decide +kernel
theorem d49_8 : decode jdk_68_method_11_code 8 = .ok (.aload_n 0, 1) := by decide +kernel
theorem d49_9 : decode jdk_68_method_11_code 9 = .ok (.getfield 15, 3) := by decide +kernel
theorem d49_12 : decode jdk_68_method_11_code 12 = .ok (.arraylength, 1) := by decide +kernel
theorem d49_13 : decode jdk_68_method_11_code 13 = .ok (.invokestatic 26, 3) := by decide +kernel
theorem d49_16 : decode jdk_68_method_11_code 16 = .ok (.astore_n 1, 1) := by decide +kernel
theorem d49_17 : decode jdk_68_method_11_code 17 = .ok (.aload_n 0, 1) := by decide +kernel
theorem d49_18 : decode jdk_68_method_11_code 18 = .ok (.getfield 15, 3) := by decide +kernel
theorem d49_21 : decode jdk_68_method_11_code 21 = .ok (.iconst 0, 1) := by decide +kernel
theorem d49_22 : decode jdk_68_method_11_code 22 = .ok (.aload_n 1, 1) := by decide +kernel
theorem d49_23 : decode jdk_68_method_11_code 23 = .ok (.iconst 0, 1) := by decide +kernel
theorem d49_24 : decode jdk_68_method_11_code 24 = .ok (.aload_n 0, 1) := by decide +kernel
theorem d49_25 : decode jdk_68_method_11_code 25 = .ok (.getfield 79, 3) := by decide +kernel
theorem d49_28 : decode jdk_68_method_11_code 28 = .ok (.invokestatic 125, 3) := by decide +kernel
theorem d49_31 : decode jdk_68_method_11_code 31 = .ok (.aload_n 0, 1) := by decide +kernel
theorem d49_32 : decode jdk_68_method_11_code 32 = .ok (.aload_n 1, 1) := by decide +kernel
theorem d49_33 : decode jdk_68_method_11_code 33 = .ok (.putfield 15, 3) := by decide +kernel
theorem d49_36 : decode jdk_68_method_11_code 36 = .ok (.aload_n 0, 1) := by decide +kernel
theorem d49_37 : decode jdk_68_method_11_code 37 = .ok (.iconst 1, 1) := by decide +kernel
theorem d49_38 : decode jdk_68_method_11_code 38 = .ok (.putfield 22, 3) := by decide +kernel
theorem d49_41 : decode jdk_68_method_11_code 41 = .ok (.return_, 1) := by decide +kernel
theorem pn_90941707 : plainFor (⟨"java/lang/AbstractStringBuilder", "inflate", "()V"⟩ : MethodName) = true := by first | exact plainFor_of_name (by first | (simp [plainName, overriddenIn]; done) | decide +kernel) | decide +kernel
set_option maxRecDepth 65536 in
set_option maxHeartbeats 4000000 in
theorem ct_asi (G : Own.Gx) (hw : ∀ d ∈ tables_1, d.before G.a0 G.Z = true) (hC : Own.CSt G) (hF : ∃ f : Value, Sta G.Z G.Z.heap "jdk/internal/util/Preconditions" "SIOOBE_FORMATTER" "Ljava/util/function/BiFunction;" f ∧ f.isRef = true) (hV : U16s G) {As : List Own.Ent} {Li : List Own.LitE} (o b : Addr) (xs : List Int32) (cap : Nat) (hxc : xs.length ≤ cap) (hcap : cap ≤ 4000) (N : Nat) (hN : cap ≤ N) (hN4 : N + N ≤ 4000) :
    Own.Ct G [] (⟨"java/lang/AbstractStringBuilder", "inflate", "()V"⟩ : MethodName) jdk_68_method_11_code 2 none ({ frames := 5, cells := 1, slots := (N + N), locals := 76 } : Room) [.ref o] ((o, true, Own.obj "java/lang/StringBuilder" F_java_lang_StringBuilder [.ref b, .int 0, .int xs.length.toInt32, .int 0]) :: (b, true, Own.arr .byte (Own.pad xs cap)) :: As) Li (fun v A L => ∃ b2, v = none ∧ A = (o, true, Own.obj "java/lang/StringBuilder" F_java_lang_StringBuilder [.ref b2, .int 1, .int xs.length.toInt32, .int 0]) :: (b2, true, Own.arr .byte (Own.pad (Own.u16 (xs.map (· &&& 255))) (2 * cap))) :: (b, true, Own.arr .byte (Own.pad xs cap)) :: As ∧ Li = L) := by
  refine Own.Ct.intro pn_90941707 (Ls := [.val (.ref o), .unset]) rfl rfl ?_
  intro K
  refine Own.W.aloadN (pc := 0) d49_0 rfl rfl ?_
  refine Own.W.callV (pc := 1) (ct_sis G hw hC o b _ (List.Mem.head _)) d49_1 (C := "java/lang/StringBuilder") (Own.Is.mem (List.Mem.head _)) (hw _ (List.mem_of_getElem? (i := 253) rfl)) (hw _ (List.mem_of_getElem? (i := 131) rfl)) (Own.nf_sel (hw _ (List.mem_of_getElem? (i := 133) rfl))) (hw _ (List.mem_of_getElem? (i := 133) rfl)) (hw _ (List.mem_of_getElem? (i := 132) rfl)) (hw _ (List.mem_of_getElem? (i := 48) rfl)) (hw _ (List.mem_of_getElem? (i := 134) rfl)) (by decide) pd_93422000 rfl rfl (Nat.le_of_ble_eq_true rfl) (Nat.le_of_ble_eq_true rfl) (by first | exact Nat.le_of_ble_eq_true rfl | (simp; done) | (simp; omega)) (by first | exact Nat.le_of_ble_eq_true rfl | (simp; done) | (simp; omega)) ?_
  rintro _ _ _ ⟨rfl, rfl, rfl⟩
  refine Own.W.if_ne (pc := 4) 8 d49_4 (by decide) (by decide) ?_ (fun h4 => absurd h4 (by decide))
  intro h4
  refine Own.W.aloadN (pc := 8) d49_8 rfl rfl ?_
  refine Own.W.getF (pc := 9) (host := "") (Or.inl (hw _ (List.mem_of_getElem? (i := 52) rfl))) (Via.refl (O := "java/lang/AbstractStringBuilder")) d49_9 (by repeat (first | exact List.Mem.head _ | assumption | exact List.mem_append_right _ (List.Mem.head _) | apply List.Mem.tail)) (by repeat (first | exact Own.FAt.head | apply Own.FAt.tail)) ?_
  refine Own.W.alen (pc := 12) d49_12 (Own.AVin.mem (List.Mem.tail _ (List.Mem.head _))) (z := cap.toInt32) (by rw [Own.pad_len hxc]) ?_
  refine Own.W.callS (pc := 13) (ct_nbf G hw cap (N + N) (by omega) hN4) d49_13 (hw _ (List.mem_of_getElem? (i := 288) rfl)) (hw _ (List.mem_of_getElem? (i := 265) rfl)) (hw _ (List.mem_of_getElem? (i := 256) rfl)) (hw _ (List.mem_of_getElem? (i := 266) rfl)) (by decide) pd_84260188 rfl rfl (Nat.le_of_ble_eq_true rfl) (Nat.le_of_ble_eq_true rfl) (by first | exact Nat.le_of_ble_eq_true rfl | (simp; done) | (simp; omega)) (by first | exact Nat.le_of_ble_eq_true rfl | (simp; done) | (simp; omega)) ?_
  rintro _ _ _ ⟨b2, rfl, rfl, rfl⟩
  refine Own.W.astoreN (pc := 16) (Ls' := [_, _]) d49_16 rfl rfl rfl ?_
  refine Own.W.aloadN (pc := 17) d49_17 rfl rfl ?_
  refine Own.W.getF (pc := 18) (host := "") (Or.inl (hw _ (List.mem_of_getElem? (i := 52) rfl))) (Via.refl (O := "java/lang/AbstractStringBuilder")) d49_18 (by repeat (first | exact List.Mem.head _ | assumption | exact List.mem_append_right _ (List.Mem.head _) | apply List.Mem.tail)) (by repeat (first | exact Own.FAt.head | apply Own.FAt.tail)) ?_
  refine Own.W.iconst (pc := 21) (z := (0 : Int32)) d49_21 (by decide) ?_
  refine Own.W.aloadN (pc := 22) d49_22 rfl rfl ?_
  refine Own.W.iconst (pc := 23) (z := (0 : Int32)) d49_23 (by decide) ?_
  refine Own.W.aloadN (pc := 24) d49_24 rfl rfl ?_
  refine Own.W.getF (pc := 25) (host := "") (Or.inl (hw _ (List.mem_of_getElem? (i := 78) rfl))) (Via.refl (O := "java/lang/AbstractStringBuilder")) d49_25 (by repeat (first | exact List.Mem.head _ | assumption | exact List.mem_append_right _ (List.Mem.head _) | apply List.Mem.tail)) (by repeat (first | exact Own.FAt.head | apply Own.FAt.tail)) ?_
  refine Own.W.callS (pc := 28) (ct_lnf G hw hF hV b b2 xs cap hxc (by omega) (Own.AVin.mem (List.Mem.tail _ (List.Mem.head _)))) d49_28 (hw _ (List.mem_of_getElem? (i := 289) rfl)) (hw _ (List.mem_of_getElem? (i := 290) rfl)) (hw _ (List.mem_of_getElem? (i := 222) rfl)) (hw _ (List.mem_of_getElem? (i := 291) rfl)) (by decide) pd_10283553 rfl rfl (Nat.le_of_ble_eq_true rfl) (Nat.le_of_ble_eq_true rfl) (by first | exact Nat.le_of_ble_eq_true rfl | (simp; done) | (simp; omega)) (by first | exact Nat.le_of_ble_eq_true rfl | (simp; done) | (simp; omega)) ?_
  rintro _ _ _ ⟨rfl, rfl, rfl⟩
  refine Own.W.aloadN (pc := 31) d49_31 rfl rfl ?_
  refine Own.W.aloadN (pc := 32) d49_32 rfl rfl ?_
  refine Own.W.putF (pc := 33) (host := "") (Or.inl (hw _ (List.mem_of_getElem? (i := 52) rfl))) (Via.refl (O := "java/lang/AbstractStringBuilder")) d49_33 (Or.inl (hw _ (List.mem_of_getElem? (i := 53) rfl))) (hw _ (List.mem_of_getElem? (i := 39) rfl)) (ty := (.array .byte)) (by decide) rfl rfl (by repeat (first | exact Own.Upd.head | exact Own.Upd.mid | apply Own.Upd.tail)) (by repeat (first | exact Own.FUp.head | apply Own.FUp.tail)) ?_
  refine Own.W.aloadN (pc := 36) d49_36 rfl rfl ?_
  refine Own.W.iconst (pc := 37) (z := (1 : Int32)) d49_37 (by decide) ?_
  refine Own.W.putN (pc := 38) (hw _ (List.mem_of_getElem? (i := 54) rfl)) (Via.refl (O := "java/lang/AbstractStringBuilder")) d49_38 (Or.inl (hw _ (List.mem_of_getElem? (i := 55) rfl))) (hw _ (List.mem_of_getElem? (i := 39) rfl)) (ty := .byte) (by decide) rfl (by first | rfl | decide) (by repeat (first | exact Own.Upd.head | exact Own.Upd.mid | apply Own.Upd.tail)) (by repeat (first | exact Own.FUp.head | apply Own.FUp.tail)) ?_
  refine Own.W.perm ?_ (List.Perm.swap _ _ _)
  refine Own.W.vret (pc := 41) d49_41 rfl  ?_ (by first | exact Nat.le_of_ble_eq_true rfl | (simp; done) | (simp; omega)) (by first | exact Nat.le_of_ble_eq_true rfl | (simp; done) | (simp; omega))
  exact ⟨b2, rfl, rfl, rfl⟩
theorem d15_17 : decode jdk_68_method_71_code 17 = .ok (.aload_n 0, 1) := by decide +kernel
theorem d15_18 : decode jdk_68_method_71_code 18 = .ok (.invokevirtual 195, 3) := by decide +kernel
theorem pd_93421996 : parseMethodDescriptor "()V" = some ⟨[], none⟩ := by decide +kernel
set_option maxRecDepth 65536 in
set_option maxHeartbeats 4000000 in
theorem ct_ifW (G : Own.Gx) (hw : ∀ d ∈ tables_1, d.before G.a0 G.Z = true) (hC : Own.CSt G) (hF : ∃ f : Value, Sta G.Z G.Z.heap "jdk/internal/util/Preconditions" "SIOOBE_FORMATTER" "Ljava/util/function/BiFunction;" f ∧ f.isRef = true) (hV : U16s G) {As : List Own.Ent} {Li : List Own.LitE} (o b : Addr) (xs : List Int32) (cap : Nat) (hxc : xs.length ≤ cap) (hcap : cap ≤ 4000) (N : Nat) (hN : cap ≤ N) (hN4 : N + N ≤ 4000) (s : Addr) (ys : List Int32) (hs : Own.StrK As s (ys.map Value.int) 1) :
    Own.Ct G [] (⟨"java/lang/AbstractStringBuilder", "inflateIfNeededFor", "(Ljava/lang/String;)V"⟩ : MethodName) jdk_68_method_71_code 2 none ({ frames := 6, cells := 1, slots := (N + N), locals := 89 } : Room) [.ref o, .ref s] ((o, true, Own.obj "java/lang/StringBuilder" F_java_lang_StringBuilder [.ref b, .int 0, .int xs.length.toInt32, .int 0]) :: (b, true, Own.arr .byte (Own.pad xs cap)) :: As) Li (fun v A L => ∃ b2, v = none ∧ A = (o, true, Own.obj "java/lang/StringBuilder" F_java_lang_StringBuilder [.ref b2, .int 1, .int xs.length.toInt32, .int 0]) :: (b2, true, Own.arr .byte (Own.pad (Own.u16 (xs.map (· &&& 255))) (2 * cap))) :: (b, true, Own.arr .byte (Own.pad xs cap)) :: As ∧ Li = L) := by
  refine Own.Ct.intro pn_21961446 (Ls := [.val (.ref o), .val (.ref s)]) rfl rfl ?_
  intro K
  obtain ⟨cz, hC1, hC2⟩ := hC
  refine Own.W.getS (pc := 0) (host := "") (Or.inl (hw _ (List.mem_of_getElem? (i := 51) rfl))) (Via.refl (O := "java/lang/String")) d15_0 hC1 ?_
  refine Own.W.if_eq (pc := 3) 21 d15_3 (by decide) (by decide) (fun h3 => absurd h3 hC2) ?_
  intro h3
  refine Own.W.aloadN (pc := 6) d15_6 rfl rfl ?_
  refine Own.W.getF (pc := 7) (host := "") (Or.inl (hw _ (List.mem_of_getElem? (i := 54) rfl))) (Via.refl (O := "java/lang/AbstractStringBuilder")) d15_7 (by repeat (first | exact List.Mem.head _ | assumption | exact List.mem_append_right _ (List.Mem.head _) | apply List.Mem.tail)) (by repeat (first | exact Own.FAt.head | apply Own.FAt.tail)) ?_
  refine Own.W.aloadN (pc := 10) d15_10 rfl rfl ?_
  refine Own.W.callV (pc := 11) (ct_coder G hw ⟨cz, hC1, hC2⟩ s _ 1 rfl (hs.sub (Own.Sub.cons (Own.Sub.cons (Own.Sub.refl _)))).str) d15_11 (C := "java/lang/String") (hs.sub (Own.Sub.cons (Own.Sub.cons (Own.Sub.refl _)))).is (hw _ (List.mem_of_getElem? (i := 95) rfl)) (hw _ (List.mem_of_getElem? (i := 73) rfl)) (Own.nf_sel (hw _ (List.mem_of_getElem? (i := 75) rfl))) (hw _ (List.mem_of_getElem? (i := 75) rfl)) (hw _ (List.mem_of_getElem? (i := 74) rfl)) (hw _ (List.mem_of_getElem? (i := 7) rfl)) (hw _ (List.mem_of_getElem? (i := 76) rfl)) (by decide) pd_93421976 rfl rfl (Nat.le_of_ble_eq_true rfl) (Nat.le_of_ble_eq_true rfl) (by first | exact Nat.le_of_ble_eq_true rfl | (simp; done) | (simp; omega)) (by first | exact Nat.le_of_ble_eq_true rfl | (simp; done) | (simp; omega)) ?_
  rintro _ _ _ ⟨rfl, rfl, rfl⟩
  refine Own.W.ic_eq (pc := 14) 21 d15_14 (by decide) (by decide) (fun h14 => absurd h14 (by decide)) ?_
  intro h14
  refine Own.W.aloadN (pc := 17) d15_17 rfl rfl ?_
  refine Own.W.callV (pc := 18) (ct_asi G hw ⟨cz, hC1, hC2⟩ hF hV o b xs cap hxc hcap N hN hN4) d15_18 (C := "java/lang/StringBuilder") (Own.Is.mem (List.Mem.head _)) (hw _ (List.mem_of_getElem? (i := 283) rfl)) (Own.decl_of (hw _ (List.mem_of_getElem? (i := 284) rfl)) (hw _ (List.mem_of_getElem? (i := 287) rfl))) (Own.nf_sel (hw _ (List.mem_of_getElem? (i := 286) rfl))) (hw _ (List.mem_of_getElem? (i := 286) rfl)) (hw _ (List.mem_of_getElem? (i := 284) rfl)) (hw _ (List.mem_of_getElem? (i := 48) rfl)) (hw _ (List.mem_of_getElem? (i := 287) rfl)) (by decide) pd_93421996 rfl rfl (Nat.le_of_ble_eq_true rfl) (Nat.le_of_ble_eq_true rfl) (by first | exact Nat.le_of_ble_eq_true rfl | (simp; done) | (simp; omega)) (by first | exact Nat.le_of_ble_eq_true rfl | (simp; done) | (simp; omega)) ?_
  rintro _ _ _ ⟨b2, rfl, rfl, rfl⟩
  refine Own.W.vret (pc := 21) d15_21 rfl  ?_ (by first | exact Nat.le_of_ble_eq_true rfl | (simp; done) | (simp; omega)) (by first | exact Nat.le_of_ble_eq_true rfl | (simp; done) | (simp; omega))
  exact ⟨b2, rfl, rfl, rfl⟩
set_option maxRecDepth 65536 in
set_option maxHeartbeats 4000000 in
theorem ct_gbW (G : Own.Gx) (hw : ∀ d ∈ tables_1, d.before G.a0 G.Z = true) (hC : Own.CSt G) {As : List Own.Ent} {Li : List Own.LitE} (x : Own.Ent) (b : Addr) (us : List Value) (n : Nat) (s : Addr) (ys : List Int32) (hs : Own.StrK As s (ys.map Value.int) 1) (hn : 2 * n + ys.length ≤ us.length) (hu : us.length ≤ 4000) :
    Own.Ct G [] (⟨"java/lang/String", "getBytes", "([BIB)V"⟩ : MethodName) jdk_42_method_147_code 4 none ({ frames := 1, cells := 0, slots := 0, locals := 18 } : Room) [.ref s, .ref b, .int n.toInt32, .int 1] (x :: (b, true, Own.arr .byte us) :: As) Li (fun v A L => v = none ∧ A = x :: (b, true, Own.arr .byte (us.take (2 * n) ++ ys.map Value.int ++ us.drop (2 * n + ys.length))) :: As ∧ Li = L) := by
  refine Own.Ct.intro pn_79751644 (Ls := [.val (.ref s), .val (.ref b), .val (.int n.toInt32), .val (.int 1)]) rfl rfl ?_
  intro K
  obtain ⟨ab, a1, a2, a3, a4⟩ := ((hs.sub (Own.Sub.cons (Own.Sub.cons (Own.Sub.refl _)))).str : Own.StrIn G _ s _ 1)
  refine Own.W.aloadN (pc := 0) d16_0 rfl rfl ?_
  refine Own.W.callV (pc := 1) (ct_coder G hw hC s _ 1 rfl (hs.sub (Own.Sub.cons (Own.Sub.cons (Own.Sub.refl _)))).str) d16_1 (C := "java/lang/String") (hs.sub (Own.Sub.cons (Own.Sub.cons (Own.Sub.refl _)))).is (hw _ (List.mem_of_getElem? (i := 72) rfl)) (hw _ (List.mem_of_getElem? (i := 73) rfl)) (Own.nf_sel (hw _ (List.mem_of_getElem? (i := 75) rfl))) (hw _ (List.mem_of_getElem? (i := 75) rfl)) (hw _ (List.mem_of_getElem? (i := 74) rfl)) (hw _ (List.mem_of_getElem? (i := 7) rfl)) (hw _ (List.mem_of_getElem? (i := 76) rfl)) (by decide) pd_93421976 rfl rfl (Nat.le_of_ble_eq_true rfl) (Nat.le_of_ble_eq_true rfl) (Nat.le_of_ble_eq_true rfl) (Nat.le_of_ble_eq_true rfl) ?_
  rintro _ _ _ ⟨rfl, rfl, rfl⟩
  refine Own.W.iloadN (pc := 4) d16_4 rfl ?_
  refine Own.W.ic_ne (pc := 5) 28 d16_5 (by decide) (by decide) (fun h5 => absurd h5 (fun q => q rfl)) ?_
  intro h5
  refine Own.W.aloadN (pc := 8) d16_8 rfl rfl ?_
  refine Own.W.getI (pc := 9) (host := "") (Or.inl (hw _ (List.mem_of_getElem? (i := 25) rfl))) (Via.refl (O := "java/lang/String")) d16_9 a2 ?_
  refine Own.W.iconst (pc := 12) (z := (0 : Int32)) d16_12 (by decide) ?_
  refine Own.W.aloadN (pc := 13) d16_13 rfl rfl ?_
  refine Own.W.iloadN (pc := 14) d16_14 rfl ?_
  refine Own.W.iloadN (pc := 15) d16_15 rfl ?_
  refine Own.W.ishl (pc := 16) d16_16 (z := (2 * n).toInt32) (Own.n_dbl (by omega)) ?_
  refine Own.W.aloadN (pc := 17) d16_17 rfl rfl ?_
  refine Own.W.getI (pc := 18) (host := "") (Or.inl (hw _ (List.mem_of_getElem? (i := 25) rfl))) (Via.refl (O := "java/lang/String")) d16_18 a2 ?_
  refine Own.W.alen (pc := 21) d16_21 a4 (z := ys.length.toInt32) (by simp) ?_
  refine Own.W.acopy (pc := 22) (us := us) d16_22 (hw _ (List.mem_of_getElem? (i := 101) rfl)) (hw _ (List.mem_of_getElem? (i := 104) rfl)) (hw _ (List.mem_of_getElem? (i := 102) rfl)) (hw _ (List.mem_of_getElem? (i := 103) rfl)) a4 rfl (by decide) (Own.n_nn (by omega)) (Own.n_nn (by omega)) (i := 0) rfl (Own.n_clamp (by omega)) (Own.n_clamp (by omega)) (by simp) (by omega) (us' := us.take (2 * n) ++ ys.map Value.int ++ us.drop (2 * n + ys.length)) (by rw [List.drop_zero, show (ys.map Value.int).take ys.length = ys.map Value.int from List.take_of_length_le (by simp)]) (by repeat (first | exact Own.Upd.head | exact Own.Upd.mid | apply Own.Upd.tail)) (Nat.le_of_ble_eq_true rfl) (Nat.le_of_ble_eq_true rfl) ?_
  refine Own.W.goto (pc := 25) 43 d16_25 (by decide) (by decide) ?_
  refine Own.W.vret (pc := 43) d16_43 rfl ?_ (Nat.le_of_ble_eq_true rfl) (Nat.le_of_ble_eq_true rfl)
  exact ⟨rfl, rfl, rfl⟩
set_option maxRecDepth 65536 in
set_option maxHeartbeats 4000000 in
theorem ct_psW (G : Own.Gx) (hw : ∀ d ∈ tables_1, d.before G.a0 G.Z = true) (hC : Own.CSt G) (hF : ∃ f : Value, Sta G.Z G.Z.heap "jdk/internal/util/Preconditions" "SIOOBE_FORMATTER" "Ljava/util/function/BiFunction;" f ∧ f.isRef = true) (hV : U16s G) {As : List Own.Ent} {Li : List Own.LitE} (o b : Addr) (xs : List Int32) (cap : Nat) (hxc : xs.length ≤ cap) (hcap : cap ≤ 4000) (N : Nat) (hN : cap ≤ N) (hN4 : N + N ≤ 4000) (s : Addr) (ys : List Int32) (hs : Own.StrK As s (ys.map Value.int) 1) (hn : 2 * xs.length + ys.length ≤ 2 * cap) :
    Own.Ct G [] (⟨"java/lang/AbstractStringBuilder", "putStringAt", "(ILjava/lang/String;)V"⟩ : MethodName) jdk_68_method_73_code 3 none ({ frames := 7, cells := 1, slots := (N + N), locals := 102 } : Room) [.ref o, .int xs.length.toInt32, .ref s] ((o, true, Own.obj "java/lang/StringBuilder" F_java_lang_StringBuilder [.ref b, .int 0, .int xs.length.toInt32, .int 0]) :: (b, true, Own.arr .byte (Own.pad xs cap)) :: As) Li (fun v A L => ∃ b2, v = none ∧ A = (o, true, Own.obj "java/lang/StringBuilder" F_java_lang_StringBuilder [.ref b2, .int 1, .int xs.length.toInt32, .int 0]) :: (b2, true, Own.arr .byte (Own.pad ((Own.u16 (xs.map (· &&& 255))) ++ ys) (2 * cap))) :: (b, true, Own.arr .byte (Own.pad xs cap)) :: As ∧ Li = L) := by
  refine Own.Ct.intro pn_19119446 (Ls := [.val (.ref o), .val (.int xs.length.toInt32), .val (.ref s)]) rfl rfl ?_
  intro K
  refine Own.W.aloadN (pc := 0) d14_0 rfl rfl ?_
  refine Own.W.aloadN (pc := 1) d14_1 rfl rfl ?_
  refine Own.W.callV (pc := 2) (ct_ifW G hw hC hF hV o b xs cap hxc hcap N hN hN4 s ys hs) d14_2 (C := "java/lang/StringBuilder") (Own.Is.mem (List.Mem.head _)) (hw _ (List.mem_of_getElem? (i := 90) rfl)) (Own.decl_of (hw _ (List.mem_of_getElem? (i := 91) rfl)) (hw _ (List.mem_of_getElem? (i := 94) rfl))) (Own.nf_sel (hw _ (List.mem_of_getElem? (i := 93) rfl))) (hw _ (List.mem_of_getElem? (i := 93) rfl)) (hw _ (List.mem_of_getElem? (i := 91) rfl)) (hw _ (List.mem_of_getElem? (i := 48) rfl)) (hw _ (List.mem_of_getElem? (i := 94) rfl)) (by decide) pd_62450860 rfl rfl (Nat.le_of_ble_eq_true rfl) (Nat.le_of_ble_eq_true rfl) (by first | exact Nat.le_of_ble_eq_true rfl | (simp; done) | (simp; omega)) (by first | exact Nat.le_of_ble_eq_true rfl | (simp; done) | (simp; omega)) ?_
  rintro _ _ _ ⟨b2, rfl, rfl, rfl⟩
  have hW : (Own.u16 (xs.map (· &&& 255))).length = 2 * xs.length := by rw [Own.u16_len, List.length_map]
  refine Own.W.aloadN (pc := 5) d14_5 rfl rfl ?_
  refine Own.W.aloadN (pc := 6) d14_6 rfl rfl ?_
  refine Own.W.getF (pc := 7) (host := "") (Or.inl (hw _ (List.mem_of_getElem? (i := 52) rfl))) (Via.refl (O := "java/lang/AbstractStringBuilder")) d14_7 (by repeat (first | exact List.Mem.head _ | assumption | exact List.mem_append_right _ (List.Mem.head _) | apply List.Mem.tail)) (by repeat (first | exact Own.FAt.head | apply Own.FAt.tail)) ?_
  refine Own.W.iloadN (pc := 10) d14_10 rfl ?_
  refine Own.W.aloadN (pc := 11) d14_11 rfl rfl ?_
  refine Own.W.getF (pc := 12) (host := "") (Or.inl (hw _ (List.mem_of_getElem? (i := 54) rfl))) (Via.refl (O := "java/lang/AbstractStringBuilder")) d14_12 (by repeat (first | exact List.Mem.head _ | assumption | exact List.mem_append_right _ (List.Mem.head _) | apply List.Mem.tail)) (by repeat (first | exact Own.FAt.head | apply Own.FAt.tail)) ?_
  refine Own.W.callV (pc := 15) (ct_gbW G hw hC _ b2 _ xs.length s ys (hs.sub (Own.Sub.cons (Own.Sub.refl _))) (by rw [Own.pad_len (by omega)]; exact hn) (by rw [Own.pad_len (by omega)]; omega)) d14_15 (C := "java/lang/String") ((hs.sub (Own.Sub.cons (Own.Sub.cons (Own.Sub.cons (Own.Sub.refl _))))).is) (hw _ (List.mem_of_getElem? (i := 96) rfl)) (hw _ (List.mem_of_getElem? (i := 97) rfl)) (Own.nf_sel (hw _ (List.mem_of_getElem? (i := 99) rfl))) (hw _ (List.mem_of_getElem? (i := 99) rfl)) (hw _ (List.mem_of_getElem? (i := 98) rfl)) (hw _ (List.mem_of_getElem? (i := 7) rfl)) (hw _ (List.mem_of_getElem? (i := 100) rfl)) (by decide) pd_24288788 rfl rfl (Nat.le_of_ble_eq_true rfl) (Nat.le_of_ble_eq_true rfl) (by first | exact Nat.le_of_ble_eq_true rfl | (simp; done) | (simp; omega)) (by first | exact Nat.le_of_ble_eq_true rfl | (simp; done) | (simp; omega)) ?_
  rintro _ _ _ ⟨rfl, rfl, rfl⟩
  rw [← hW, Own.pad_put (by omega)]
  refine Own.W.vret (pc := 18) d14_18 rfl  ?_ (by first | exact Nat.le_of_ble_eq_true rfl | (simp; done) | (simp; omega)) (by first | exact Nat.le_of_ble_eq_true rfl | (simp; done) | (simp; omega))
  exact ⟨b2, rfl, rfl, rfl⟩
set_option maxRecDepth 65536 in
set_option maxHeartbeats 4000000 in
theorem ct_aaW (G : Own.Gx) (hw : ∀ d ∈ tables_1, d.before G.a0 G.Z = true) (hC : Own.CSt G) (hF : ∃ f : Value, Sta G.Z G.Z.heap "jdk/internal/util/Preconditions" "SIOOBE_FORMATTER" "Ljava/util/function/BiFunction;" f ∧ f.isRef = true) (hV : U16s G) {As : List Own.Ent} {Li : List Own.LitE} (o b : Addr) (xs : List Int32) (cap : Nat) (hxc : xs.length ≤ cap) (hcap : cap ≤ 4000) (s : Addr) (ys : List Int32) (hs : Own.StrK As s (ys.map Value.int) 1) (n : Nat) (hyn : ys.length = 2 * n) (N : Nat) (hl : xs.length + n ≤ 4000) (hN : Own.grow cap (xs.length + n) ≤ N) (hN4 : N + N ≤ 4000) :
    Own.Ct G [] (⟨"java/lang/AbstractStringBuilder", "append", "(Ljava/lang/String;)Ljava/lang/AbstractStringBuilder;"⟩ : MethodName) jdk_68_method_22_code 3 (some (.object "java/lang/AbstractStringBuilder")) ({ frames := 8, cells := 2, slots := (N + (N + N)), locals := 116 } : Room) [.ref o, .ref s] ((o, true, Own.obj "java/lang/StringBuilder" F_java_lang_StringBuilder [.ref b, .int 0, .int xs.length.toInt32, .int 0]) :: (b, true, Own.arr .byte (Own.pad xs cap)) :: As) Li (fun v A L => ∃ b2 A0, v = some (.ref o) ∧ A = ((o, true, Own.obj "java/lang/StringBuilder" F_java_lang_StringBuilder [.ref b2, .int 1, .int (xs.length + n).toInt32, .int 0]) :: (b2, true, Own.arr .byte (Own.pad ((Own.u16 (xs.map (· &&& 255))) ++ ys) (2 * (Own.grow cap (xs.length + n))))) :: A0) ∧ Own.Sub As A0 ∧ Li = L) := by
  refine Own.Ct.intro pn_39640229 (Ls := [.val (.ref o), .val (.ref s), .unset]) rfl rfl ?_
  intro K
  refine Own.W.aloadN (pc := 0) d10_0 rfl rfl ?_
  refine Own.W.nonnullY (pc := 1) 9 d10_1 (by decide) (by decide) ?_
  refine Own.W.aloadN (pc := 9) d10_9 rfl rfl ?_
  refine Own.W.callV (pc := 10) (ct_slen1 G hw hC s _ n (by rw [List.length_map]; exact hyn) (by omega) (hs.sub (Own.Sub.cons (Own.Sub.cons (Own.Sub.refl _)))).str) d10_10 (C := "java/lang/String") (hs.sub (Own.Sub.cons (Own.Sub.cons (Own.Sub.refl _)))).is (hw _ (List.mem_of_getElem? (i := 67) rfl)) (hw _ (List.mem_of_getElem? (i := 68) rfl)) (Own.nf_sel (hw _ (List.mem_of_getElem? (i := 70) rfl))) (hw _ (List.mem_of_getElem? (i := 70) rfl)) (hw _ (List.mem_of_getElem? (i := 69) rfl)) (hw _ (List.mem_of_getElem? (i := 7) rfl)) (hw _ (List.mem_of_getElem? (i := 71) rfl)) (by decide) pd_93421983 rfl rfl (Nat.le_of_ble_eq_true rfl) (Nat.le_of_ble_eq_true rfl) (by first | exact Nat.le_of_ble_eq_true rfl | (simp; done) | (simp; omega)) (by first | exact Nat.le_of_ble_eq_true rfl | (simp; done) | (simp; omega)) ?_
  rintro _ _ _ ⟨rfl, rfl, rfl⟩
  refine Own.W.istoreN (pc := 13) (Ls' := [_, _, _]) d10_13 rfl rfl ?_
  refine Own.W.aloadN (pc := 14) d10_14 rfl rfl ?_
  refine Own.W.aloadN (pc := 15) d10_15 rfl rfl ?_
  refine Own.W.getF (pc := 16) (host := "") (Or.inl (hw _ (List.mem_of_getElem? (i := 78) rfl))) (Via.refl (O := "java/lang/AbstractStringBuilder")) d10_16 (by repeat (first | exact List.Mem.head _ | assumption | exact List.mem_append_right _ (List.Mem.head _) | apply List.Mem.tail)) (by repeat (first | exact Own.FAt.head | apply Own.FAt.tail)) ?_
  refine Own.W.iloadN (pc := 19) d10_19 rfl ?_
  refine Own.W.iadd (pc := 20) d10_20 (z := (xs.length + n).toInt32) (Own.n_add _ _) ?_
  refine Own.W.callV (pc := 21) (ct_eci G hw o b xs cap hxc hcap (xs.length + n) N hl hN (by omega)) d10_21 (C := "java/lang/StringBuilder") (Own.Is.mem (List.Mem.head _)) (hw _ (List.mem_of_getElem? (i := 80) rfl)) (Own.decl_of (hw _ (List.mem_of_getElem? (i := 81) rfl)) (hw _ (List.mem_of_getElem? (i := 84) rfl))) (Own.nf_sel (hw _ (List.mem_of_getElem? (i := 83) rfl))) (hw _ (List.mem_of_getElem? (i := 83) rfl)) (hw _ (List.mem_of_getElem? (i := 81) rfl)) (hw _ (List.mem_of_getElem? (i := 48) rfl)) (hw _ (List.mem_of_getElem? (i := 84) rfl)) (by decide) pd_87992021 rfl rfl (Nat.le_of_ble_eq_true rfl) (Nat.le_of_ble_eq_true rfl) (by first | exact Nat.le_of_ble_eq_true rfl | (simp; done) | (simp; omega)) (by first | exact Nat.le_of_ble_eq_true rfl | (simp; done) | (simp; omega)) ?_
  rintro _ _ _ ⟨b2, A0, rfl, rfl, hsub, rfl⟩
  have hge : xs.length + n ≤ (Own.grow cap (xs.length + n)) := Own.grow_ge
  refine Own.W.aloadN (pc := 24) d10_24 rfl rfl ?_
  refine Own.W.aloadN (pc := 25) d10_25 rfl rfl ?_
  refine Own.W.getF (pc := 26) (host := "") (Or.inl (hw _ (List.mem_of_getElem? (i := 78) rfl))) (Via.refl (O := "java/lang/AbstractStringBuilder")) d10_26 (by repeat (first | exact List.Mem.head _ | assumption | exact List.mem_append_right _ (List.Mem.head _) | apply List.Mem.tail)) (by repeat (first | exact Own.FAt.head | apply Own.FAt.tail)) ?_
  refine Own.W.aloadN (pc := 29) d10_29 rfl rfl ?_
  refine Own.W.callV (pc := 30) (ct_psW G hw hC hF hV o b2 xs (Own.grow cap (xs.length + n)) (by omega) (by omega) N hN hN4 s ys (hs.sub hsub) (by omega)) d10_30 (C := "java/lang/StringBuilder") (Own.Is.mem (List.Mem.head _)) (hw _ (List.mem_of_getElem? (i := 85) rfl)) (Own.decl_of (hw _ (List.mem_of_getElem? (i := 86) rfl)) (hw _ (List.mem_of_getElem? (i := 89) rfl))) (Own.nf_sel (hw _ (List.mem_of_getElem? (i := 88) rfl))) (hw _ (List.mem_of_getElem? (i := 88) rfl)) (hw _ (List.mem_of_getElem? (i := 86) rfl)) (hw _ (List.mem_of_getElem? (i := 48) rfl)) (hw _ (List.mem_of_getElem? (i := 89) rfl)) (by decide) pd_62292757 rfl rfl (Nat.le_of_ble_eq_true rfl) (Nat.le_of_ble_eq_true rfl) (by first | exact Nat.le_of_ble_eq_true rfl | (simp; done) | (simp; omega)) (by first | exact Nat.le_of_ble_eq_true rfl | (simp; done) | (simp; omega)) ?_
  rintro _ _ _ ⟨b3, rfl, rfl, rfl⟩
  refine Own.W.aloadN (pc := 33) d10_33 rfl rfl ?_
  refine Own.W.dup (pc := 34) d10_34 rfl ?_
  refine Own.W.getF (pc := 35) (host := "") (Or.inl (hw _ (List.mem_of_getElem? (i := 78) rfl))) (Via.refl (O := "java/lang/AbstractStringBuilder")) d10_35 (by repeat (first | exact List.Mem.head _ | assumption | exact List.mem_append_right _ (List.Mem.head _) | apply List.Mem.tail)) (by repeat (first | exact Own.FAt.head | apply Own.FAt.tail)) ?_
  refine Own.W.iloadN (pc := 38) d10_38 rfl ?_
  refine Own.W.iadd (pc := 39) d10_39 (z := (xs.length + n).toInt32) (Own.n_add _ _) ?_
  refine Own.W.putF (pc := 40) (host := "") (Or.inl (hw _ (List.mem_of_getElem? (i := 78) rfl))) (Via.refl (O := "java/lang/AbstractStringBuilder")) d10_40 (Or.inl (hw _ (List.mem_of_getElem? (i := 79) rfl))) (hw _ (List.mem_of_getElem? (i := 39) rfl)) (ty := .int) (by decide) rfl rfl (by repeat (first | exact Own.Upd.head | exact Own.Upd.mid | apply Own.Upd.tail)) (by repeat (first | exact Own.FUp.head | apply Own.FUp.tail)) ?_
  refine Own.W.aloadN (pc := 43) d10_43 rfl rfl ?_
  refine Own.W.aret (pc := 44) d10_44 rfl rfl rfl ?_ (by first | exact Nat.le_of_ble_eq_true rfl | (simp; done) | (simp; omega)) (by first | exact Nat.le_of_ble_eq_true rfl | (simp; done) | (simp; omega))
  exact ⟨b3, _, rfl, rfl, fun e he => List.Mem.tail _ (hsub e he), rfl⟩
set_option maxRecDepth 65536 in
set_option maxHeartbeats 4000000 in
theorem ct_apW (G : Own.Gx) (hw : ∀ d ∈ tables_1, d.before G.a0 G.Z = true) (hC : Own.CSt G) (hF : ∃ f : Value, Sta G.Z G.Z.heap "jdk/internal/util/Preconditions" "SIOOBE_FORMATTER" "Ljava/util/function/BiFunction;" f ∧ f.isRef = true) (hV : U16s G) {As : List Own.Ent} {Li : List Own.LitE} (o b : Addr) (xs : List Int32) (cap : Nat) (hxc : xs.length ≤ cap) (hcap : cap ≤ 4000) (s : Addr) (ys : List Int32) (hs : Own.StrK As s (ys.map Value.int) 1) (n : Nat) (hyn : ys.length = 2 * n) (N : Nat) (hl : xs.length + n ≤ 4000) (hN : Own.grow cap (xs.length + n) ≤ N) (hN4 : N + N ≤ 4000) :
    Own.Ct G [] (⟨"java/lang/StringBuilder", "append", "(Ljava/lang/String;)Ljava/lang/StringBuilder;"⟩ : MethodName) jdk_67_method_7_code 2 (some (.object "java/lang/StringBuilder")) ({ frames := 9, cells := 2, slots := (N + (N + N)), locals := 130 } : Room) [.ref o, .ref s] ((o, true, Own.obj "java/lang/StringBuilder" F_java_lang_StringBuilder [.ref b, .int 0, .int xs.length.toInt32, .int 0]) :: (b, true, Own.arr .byte (Own.pad xs cap)) :: As) Li (fun v A L => ∃ b2 A0, v = some (.ref o) ∧ A = ((o, true, Own.obj "java/lang/StringBuilder" F_java_lang_StringBuilder [.ref b2, .int 1, .int (xs.length + n).toInt32, .int 0]) :: (b2, true, Own.arr .byte (Own.pad ((Own.u16 (xs.map (· &&& 255))) ++ ys) (2 * (Own.grow cap (xs.length + n))))) :: A0) ∧ Own.Sub As A0 ∧ Li = L) := by
  refine Own.Ct.intro pn_12648445 (Ls := [.val (.ref o), .val (.ref s)]) rfl rfl ?_
  intro K
  refine Own.W.aloadN (pc := 0) d9_0 rfl rfl ?_
  refine Own.W.aloadN (pc := 1) d9_1 rfl rfl ?_
  refine Own.W.callX (pc := 2) (ct_aaW G hw hC hF hV o b xs cap hxc hcap s ys hs n hyn N hl hN hN4) d9_2 (C := "java/lang/StringBuilder") (Own.Is.mem (List.Mem.head _)) (hw _ (List.mem_of_getElem? (i := 62) rfl)) (Own.same_of (hw _ (List.mem_of_getElem? (i := 63) rfl)) (hw _ (List.mem_of_getElem? (i := 83) rfl)) rfl (by decide)) (hw _ (List.mem_of_getElem? (i := 63) rfl)) (hw _ (List.mem_of_getElem? (i := 64) rfl)) (by decide) (hw _ (List.mem_of_getElem? (i := 48) rfl)) (hw _ (List.mem_of_getElem? (i := 66) rfl)) pd_29712177 rfl rfl (Nat.le_of_ble_eq_true rfl) (Nat.le_of_ble_eq_true rfl) (by first | exact Nat.le_of_ble_eq_true rfl | (simp; done) | (simp; omega)) (by first | exact Nat.le_of_ble_eq_true rfl | (simp; done) | (simp; omega)) ?_
  rintro _ _ _ ⟨b2, A0, rfl, rfl, hsub, rfl⟩
  refine Own.W.pop (pc := 5) d9_5 rfl ?_
  refine Own.W.aloadN (pc := 6) d9_6 rfl rfl ?_
  refine Own.W.aret (pc := 7) d9_7 rfl rfl rfl ?_ (by first | exact Nat.le_of_ble_eq_true rfl | (simp; done) | (simp; omega)) (by first | exact Nat.le_of_ble_eq_true rfl | (simp; done) | (simp; omega))
  exact ⟨b2, A0, rfl, rfl, hsub, rfl⟩
theorem d19_41 : decode jdk_42_method_150_code 41 = .ok (.getstatic 38, 3) := by decide +kernel
theorem d19_44 : decode jdk_42_method_150_code 44 = .ok (.ifCond .eq 35, 3) := by decide +kernel
theorem d19_47 : decode jdk_42_method_150_code 47 = .ok (.aload_n 1, 1) := by decide +kernel
theorem d19_48 : decode jdk_42_method_150_code 48 = .ok (.getfield 1048, 3) := by decide +kernel
theorem d19_51 : decode jdk_42_method_150_code 51 = .ok (.ifCond .eq 28, 3) := by decide +kernel
theorem d19_79 : decode jdk_42_method_150_code 79 = .ok (.aload_n 0, 1) := by decide +kernel
theorem d19_80 : decode jdk_42_method_150_code 80 = .ok (.iconst 1, 1) := by decide +kernel
theorem d19_81 : decode jdk_42_method_150_code 81 = .ok (.putfield 15, 3) := by decide +kernel
theorem d19_84 : decode jdk_42_method_150_code 84 = .ok (.aload_n 0, 1) := by decide +kernel
theorem d19_85 : decode jdk_42_method_150_code 85 = .ok (.aload_n 3, 1) := by decide +kernel
theorem d19_86 : decode jdk_42_method_150_code 86 = .ok (.iconst 0, 1) := by decide +kernel
theorem d19_87 : decode jdk_42_method_150_code 87 = .ok (.iload 4, 2) := by decide +kernel
theorem d19_89 : decode jdk_42_method_150_code 89 = .ok (.iconst 1, 1) := by decide +kernel
theorem d19_90 : decode jdk_42_method_150_code 90 = .ok (.ishl, 1) := by decide +kernel
theorem d19_91 : decode jdk_42_method_150_code 91 = .ok (.invokestatic 54, 3) := by decide +kernel
theorem d19_94 : decode jdk_42_method_150_code 94 = .ok (.putfield 9, 3) := by decide +kernel
set_option maxRecDepth 65536 in
set_option maxHeartbeats 4000000 in
theorem ct_svW (G : Own.Gx) (hw : ∀ d ∈ tables_1, d.before G.a0 G.Z = true) (hC : Own.CSt G) {As : List Own.Ent} {Li : List Own.LitE} (s : Addr) (o b : Addr) (X : List Int32) (n cap : Nat) (hX : X.length = 2 * n) (hXc : X.length ≤ cap) (hcap : cap ≤ 4000) (N : Nat) (hN : X.length ≤ N) (hN4 : N ≤ 4000) :
    Own.Ct G [] (⟨"java/lang/String", "<init>", "(Ljava/lang/AbstractStringBuilder;Ljava/lang/Void;)V"⟩ : MethodName) jdk_42_method_150_code 5 none ({ frames := 3, cells := 1, slots := N, locals := 49 } : Room) [.ref s, .ref o, .null] ((s, true, Own.obj "java/lang/String" F_java_lang_String [.null, .int 0]) :: (o, true, Own.obj "java/lang/StringBuilder" F_java_lang_StringBuilder [.ref b, .int 1, .int n.toInt32, .int 0]) :: (b, true, Own.arr .byte (Own.pad X cap)) :: As) Li (fun v A L => ∃ t, v = none ∧ A = (t, true, Own.arr .byte (X.map Value.int)) :: (s, true, Own.obj "java/lang/String" F_java_lang_String [.ref t, .int 1]) :: (o, true, Own.obj "java/lang/StringBuilder" F_java_lang_StringBuilder [.ref b, .int 1, .int n.toInt32, .int 0]) :: (b, true, Own.arr .byte (Own.pad X cap)) :: As ∧ Li = L) := by
  refine Own.Ct.intro pn_95129745 (Ls := [.val (.ref s), .val (.ref o), .val (.null), .unset, .unset]) rfl rfl ?_
  intro K
  obtain ⟨cz, hC1, hC2⟩ := hC
  refine Own.W.aloadN (pc := 0) d19_0 rfl rfl ?_
  refine Own.W.callO (pc := 1) d19_1 (hw _ (List.mem_of_getElem? (i := 16) rfl)) (hw _ (List.mem_of_getElem? (i := 17) rfl)) (hw _ (List.mem_of_getElem? (i := 18) rfl)) (Nat.le_of_ble_eq_true rfl) (Nat.le_of_ble_eq_true rfl) ?_
  refine Own.W.aloadN (pc := 4) d19_4 rfl rfl ?_
  refine Own.W.callV (pc := 5) (ct_sgv1 G hw o b _ (List.Mem.tail _ (List.Mem.head _))) d19_5 (C := "java/lang/StringBuilder") (Own.Is.mem (List.Mem.tail _ (List.Mem.head _))) (hw _ (List.mem_of_getElem? (i := 117) rfl)) (hw _ (List.mem_of_getElem? (i := 118) rfl)) (Own.nf_sel (hw _ (List.mem_of_getElem? (i := 120) rfl))) (hw _ (List.mem_of_getElem? (i := 120) rfl)) (hw _ (List.mem_of_getElem? (i := 119) rfl)) (hw _ (List.mem_of_getElem? (i := 48) rfl)) (hw _ (List.mem_of_getElem? (i := 121) rfl)) (by decide) pd_87958803 rfl rfl (Nat.le_of_ble_eq_true rfl) (Nat.le_of_ble_eq_true rfl) (by first | exact Nat.le_of_ble_eq_true rfl | (simp; done) | (simp; omega)) (by first | exact Nat.le_of_ble_eq_true rfl | (simp; done) | (simp; omega)) ?_
  rintro _ _ _ ⟨rfl, rfl, rfl⟩
  refine Own.W.astoreN (pc := 8) (Ls' := [_, _, _, _, _]) d19_8 rfl rfl rfl ?_
  refine Own.W.aloadN (pc := 9) d19_9 rfl rfl ?_
  refine Own.W.callV (pc := 10) (ct_sl11 G hw o b _ (List.Mem.tail _ (List.Mem.head _))) d19_10 (C := "java/lang/StringBuilder") (Own.Is.mem (List.Mem.tail _ (List.Mem.head _))) (hw _ (List.mem_of_getElem? (i := 122) rfl)) (hw _ (List.mem_of_getElem? (i := 123) rfl)) (Own.nf_cls (hw _ (List.mem_of_getElem? (i := 83) rfl)) rfl) (hw _ (List.mem_of_getElem? (i := 125) rfl)) (hw _ (List.mem_of_getElem? (i := 126) rfl)) (hw _ (List.mem_of_getElem? (i := 40) rfl)) (hw _ (List.mem_of_getElem? (i := 127) rfl)) (by decide) pd_93421983 rfl rfl (Nat.le_of_ble_eq_true rfl) (Nat.le_of_ble_eq_true rfl) (by first | exact Nat.le_of_ble_eq_true rfl | (simp; done) | (simp; omega)) (by first | exact Nat.le_of_ble_eq_true rfl | (simp; done) | (simp; omega)) ?_
  rintro _ _ _ ⟨rfl, rfl, rfl⟩
  refine Own.W.istore (pc := 13) (Ls' := [_, _, _, _, _]) d19_13 rfl rfl ?_
  refine Own.W.aloadN (pc := 15) d19_15 rfl rfl ?_
  refine Own.W.callV (pc := 16) (ct_sis1 G hw ⟨cz, hC1, hC2⟩ o b _ (List.Mem.tail _ (List.Mem.head _))) d19_16 (C := "java/lang/StringBuilder") (Own.Is.mem (List.Mem.tail _ (List.Mem.head _))) (hw _ (List.mem_of_getElem? (i := 130) rfl)) (hw _ (List.mem_of_getElem? (i := 131) rfl)) (Own.nf_sel (hw _ (List.mem_of_getElem? (i := 133) rfl))) (hw _ (List.mem_of_getElem? (i := 133) rfl)) (hw _ (List.mem_of_getElem? (i := 132) rfl)) (hw _ (List.mem_of_getElem? (i := 48) rfl)) (hw _ (List.mem_of_getElem? (i := 134) rfl)) (by decide) pd_93422000 rfl rfl (Nat.le_of_ble_eq_true rfl) (Nat.le_of_ble_eq_true rfl) (by first | exact Nat.le_of_ble_eq_true rfl | (simp; done) | (simp; omega)) (by first | exact Nat.le_of_ble_eq_true rfl | (simp; done) | (simp; omega)) ?_
  rintro _ _ _ ⟨rfl, rfl, rfl⟩
  refine Own.W.if_eq (pc := 19) 41 d19_19 (by decide) (by decide) ?_ (fun h19 => absurd h19 (fun q => q rfl))
  intro h19
  refine Own.W.getS (pc := 41) (host := "") (Or.inl (hw _ (List.mem_of_getElem? (i := 77) rfl))) (Via.refl (O := "java/lang/String")) d19_41 hC1 ?_
  refine Own.W.if_eq (pc := 44) 79 d19_44 (by decide) (by decide) (fun h44 => absurd h44 hC2) ?_
  intro h44
  refine Own.W.aloadN (pc := 47) d19_47 rfl rfl ?_
  refine Own.W.getF (pc := 48) (host := "") (Or.inl (hw _ (List.mem_of_getElem? (i := 309) rfl))) (Via.refl (O := "java/lang/AbstractStringBuilder")) d19_48 (by repeat (first | exact List.Mem.head _ | assumption | exact List.mem_append_right _ (List.Mem.head _) | apply List.Mem.tail)) (by repeat (first | exact Own.FAt.head | apply Own.FAt.tail)) ?_
  refine Own.W.if_eq (pc := 51) 79 d19_51 (by decide) (by decide) ?_ (fun h51 => absurd h51 (fun q => q rfl))
  intro h51
  refine Own.W.aloadN (pc := 79) d19_79 rfl rfl ?_
  refine Own.W.iconst (pc := 80) (z := (1 : Int32)) d19_80 (by decide) ?_
  refine Own.W.putN (pc := 81) (hw _ (List.mem_of_getElem? (i := 26) rfl)) (Via.refl (O := "java/lang/String")) d19_81 (Or.inr ⟨(hw _ (List.mem_of_getElem? (i := 22) rfl)), rfl, rfl⟩) (hw _ (List.mem_of_getElem? (i := 6) rfl)) (ty := .byte) (by decide) rfl (by first | rfl | decide) (by repeat (first | exact Own.Upd.head | exact Own.Upd.mid | apply Own.Upd.tail)) (by repeat (first | exact Own.FUp.head | apply Own.FUp.tail)) ?_
  refine Own.W.aloadN (pc := 84) d19_84 rfl rfl ?_
  refine Own.W.aloadN (pc := 85) d19_85 rfl rfl ?_
  refine Own.W.iconst (pc := 86) (z := (0 : Int32)) d19_86 (by decide) ?_
  refine Own.W.iload (pc := 87) d19_87 rfl ?_
  refine Own.W.iconst (pc := 89) (z := (1 : Int32)) d19_89 (by decide) ?_
  refine Own.W.ishl (pc := 90) d19_90 (z := (2 * n).toInt32) (Own.n_dbl (by omega)) ?_
  rw [← hX]
  refine Own.W.callS (pc := 91) (ct_cor G hw b _ X.length N (by rw [Own.pad_len hXc]; exact hXc) (by rw [Own.pad_len hXc]; omega) hN hN4 (List.Mem.tail _ (List.Mem.tail _ (List.Mem.head _)))) d19_91 (hw _ (List.mem_of_getElem? (i := 135) rfl)) (hw _ (List.mem_of_getElem? (i := 136) rfl)) (hw _ (List.mem_of_getElem? (i := 137) rfl)) (hw _ (List.mem_of_getElem? (i := 138) rfl)) (by decide) pd_47730210 rfl rfl (Nat.le_of_ble_eq_true rfl) (Nat.le_of_ble_eq_true rfl) (by first | exact Nat.le_of_ble_eq_true rfl | (simp; done) | (simp; omega)) (by first | exact Nat.le_of_ble_eq_true rfl | (simp; done) | (simp; omega)) ?_
  rintro _ _ _ ⟨t, rfl, rfl, rfl⟩
  refine Own.W.putF (pc := 94) (host := "") (Or.inl (hw _ (List.mem_of_getElem? (i := 25) rfl))) (Via.refl (O := "java/lang/String")) d19_94 (Or.inr ⟨(hw _ (List.mem_of_getElem? (i := 21) rfl)), rfl, rfl⟩) (hw _ (List.mem_of_getElem? (i := 6) rfl)) (ty := (.array .byte)) (by decide) rfl rfl (by repeat (first | exact Own.Upd.head | exact Own.Upd.mid | apply Own.Upd.tail)) (by repeat (first | exact Own.FUp.head | apply Own.FUp.tail)) ?_
  rw [Own.pad_take]
  refine Own.W.vret (pc := 97) d19_97 rfl  ?_ (by first | exact Nat.le_of_ble_eq_true rfl | (simp; done) | (simp; omega)) (by first | exact Nat.le_of_ble_eq_true rfl | (simp; done) | (simp; omega))
  exact ⟨t, rfl, rfl, rfl⟩
set_option maxRecDepth 65536 in
set_option maxHeartbeats 4000000 in
theorem ct_sbW (G : Own.Gx) (hw : ∀ d ∈ tables_1, d.before G.a0 G.Z = true) (hC : Own.CSt G) {As : List Own.Ent} {Li : List Own.LitE} (s : Addr) (o b : Addr) (X : List Int32) (n cap : Nat) (hX : X.length = 2 * n) (hXc : X.length ≤ cap) (hcap : cap ≤ 4000) (N : Nat) (hN : X.length ≤ N) (hN4 : N ≤ 4000) :
    Own.Ct G [] (⟨"java/lang/String", "<init>", "(Ljava/lang/StringBuilder;)V"⟩ : MethodName) jdk_42_method_53_code 2 none ({ frames := 4, cells := 1, slots := N, locals := 65 } : Room) [.ref s, .ref o] ((s, true, Own.obj "java/lang/String" F_java_lang_String [.null, .int 0]) :: (o, true, Own.obj "java/lang/StringBuilder" F_java_lang_StringBuilder [.ref b, .int 1, .int n.toInt32, .int 0]) :: (b, true, Own.arr .byte (Own.pad X cap)) :: As) Li (fun v A L => ∃ t, v = none ∧ A = (t, true, Own.arr .byte (X.map Value.int)) :: (s, true, Own.obj "java/lang/String" F_java_lang_String [.ref t, .int 1]) :: (o, true, Own.obj "java/lang/StringBuilder" F_java_lang_StringBuilder [.ref b, .int 1, .int n.toInt32, .int 0]) :: (b, true, Own.arr .byte (Own.pad X cap)) :: As ∧ Li = L) := by
  refine Own.Ct.intro pn_59478978 (Ls := [.val (.ref s), .val (.ref o)]) rfl rfl ?_
  intro K
  refine Own.W.aloadN (pc := 0) d18_0 rfl rfl ?_
  refine Own.W.aloadN (pc := 1) d18_1 rfl rfl ?_
  refine Own.W.aconstNull (pc := 2) d18_2 ?_
  refine Own.W.callI (pc := 3) (ct_svW G hw hC s o b X n cap hX hXc hcap N hN hN4) d18_3 rfl (hw _ (List.mem_of_getElem? (i := 114) rfl)) (hw _ (List.mem_of_getElem? (i := 115) rfl)) (hw _ (List.mem_of_getElem? (i := 7) rfl)) (hw _ (List.mem_of_getElem? (i := 116) rfl)) (by decide) pd_35917794 rfl rfl (Nat.le_of_ble_eq_true rfl) (Nat.le_of_ble_eq_true rfl) (by first | exact Nat.le_of_ble_eq_true rfl | (simp; done) | (simp; omega)) (by first | exact Nat.le_of_ble_eq_true rfl | (simp; done) | (simp; omega)) ?_
  rintro _ _ _ ⟨t, rfl, rfl, rfl⟩
  refine Own.W.vret (pc := 6) d18_6 rfl  ?_ (by first | exact Nat.le_of_ble_eq_true rfl | (simp; done) | (simp; omega)) (by first | exact Nat.le_of_ble_eq_true rfl | (simp; done) | (simp; omega))
  exact ⟨t, rfl, rfl, rfl⟩
set_option maxRecDepth 65536 in
set_option maxHeartbeats 4000000 in
theorem ct_toW (G : Own.Gx) (hw : ∀ d ∈ tables_1, d.before G.a0 G.Z = true) (hC : Own.CSt G) {As : List Own.Ent} {Li : List Own.LitE} (o b : Addr) (X : List Int32) (n cap : Nat) (hX : X.length = 2 * n) (hXc : X.length ≤ cap) (hcap : cap ≤ 4000) (N : Nat) (hN : X.length ≤ N) (hN4 : N ≤ 4000) :
    Own.Ct G [] (⟨"java/lang/StringBuilder", "toString", "()Ljava/lang/String;"⟩ : MethodName) jdk_67_method_42_code 1 (some (.object "java/lang/String")) ({ frames := 5, cells := 2, slots := (N + 4), locals := 79 } : Room) [.ref o] ((o, true, Own.obj "java/lang/StringBuilder" F_java_lang_StringBuilder [.ref b, .int 1, .int n.toInt32, .int 0]) :: (b, true, Own.arr .byte (Own.pad X cap)) :: As) Li (fun v A L => ∃ s, v = some (.ref s) ∧ Own.StrK A s (X.map Value.int) 1 ∧ Own.Sub As A ∧ Li = L) := by
  refine Own.Ct.intro pn_320280 (Ls := [.val (.ref o)]) rfl rfl ?_
  intro K
  refine Own.W.new (pc := 0) (hw _ (List.mem_of_getElem? (i := 110) rfl)) (hw _ (List.mem_of_getElem? (i := 6) rfl)) (hw _ (List.mem_of_getElem? (i := 7) rfl)) d17_0 (LF_java_lang_String G hw) (vs := [.null, .int 0]) (by decide) (by first | exact Nat.le_of_ble_eq_true rfl | (simp; done) | (simp; omega)) (by first | exact Nat.le_of_ble_eq_true rfl | (simp; done) | (simp; omega)) ?_
  intro o0
  refine Own.W.dup (pc := 3) d17_3 rfl ?_
  refine Own.W.aloadN (pc := 4) d17_4 rfl rfl ?_
  refine Own.W.callI (pc := 5) (ct_sbW G hw hC o0 o b X n cap hX hXc hcap N hN hN4) d17_5 rfl (hw _ (List.mem_of_getElem? (i := 111) rfl)) (hw _ (List.mem_of_getElem? (i := 112) rfl)) (hw _ (List.mem_of_getElem? (i := 7) rfl)) (hw _ (List.mem_of_getElem? (i := 113) rfl)) (by decide) pd_91813651 rfl rfl (Nat.le_of_ble_eq_true rfl) (Nat.le_of_ble_eq_true rfl) (by first | exact Nat.le_of_ble_eq_true rfl | (simp; done) | (simp; omega)) (by first | exact Nat.le_of_ble_eq_true rfl | (simp; done) | (simp; omega)) ?_
  rintro _ _ _ ⟨t, rfl, rfl, rfl⟩
  refine Own.W.frz Own.Frz.head ?_
  refine Own.W.frz (Own.Frz.tail Own.Frz.head) ?_
  refine Own.W.aret (pc := 8) d17_8 rfl rfl rfl ?_ (by first | exact Nat.le_of_ble_eq_true rfl | (simp; done) | (simp; omega)) (by first | exact Nat.le_of_ble_eq_true rfl | (simp; done) | (simp; omega))
  exact ⟨_, rfl, ⟨t, _, _, List.Mem.tail _ (List.Mem.head _), (by repeat (first | exact Own.FAt.head | apply Own.FAt.tail)), (by repeat (first | exact Own.FAt.head | apply Own.FAt.tail)), List.Mem.head _⟩, Own.Sub.cons (Own.Sub.cons (Own.Sub.cons (Own.Sub.cons (Own.Sub.refl _)))), rfl⟩
theorem d36_0 : decode jdk_68_method_26_code 0 = .ok (.aload_n 0, 1) := by decide +kernel
theorem d36_1 : decode jdk_68_method_26_code 1 = .ok (.aload_n 0, 1) := by decide +kernel
theorem d36_2 : decode jdk_68_method_26_code 2 = .ok (.getfield 79, 3) := by decide +kernel
theorem d36_5 : decode jdk_68_method_26_code 5 = .ok (.iconst 4, 1) := by decide +kernel
theorem d36_6 : decode jdk_68_method_26_code 6 = .ok (.iadd, 1) := by decide +kernel
theorem d36_7 : decode jdk_68_method_26_code 7 = .ok (.invokevirtual 100, 3) := by decide +kernel
theorem d36_10 : decode jdk_68_method_26_code 10 = .ok (.aload_n 0, 1) := by decide +kernel
theorem d36_11 : decode jdk_68_method_26_code 11 = .ok (.getfield 79, 3) := by decide +kernel
theorem d36_14 : decode jdk_68_method_26_code 14 = .ok (.istore_n 1, 1) := by decide +kernel
theorem d36_15 : decode jdk_68_method_26_code 15 = .ok (.aload_n 0, 1) := by decide +kernel
theorem d36_16 : decode jdk_68_method_26_code 16 = .ok (.getfield 15, 3) := by decide +kernel
theorem d36_19 : decode jdk_68_method_26_code 19 = .ok (.astore_n 2, 1) := by decide +kernel
theorem d36_20 : decode jdk_68_method_26_code 20 = .ok (.aload_n 0, 1) := by decide +kernel
theorem d36_21 : decode jdk_68_method_26_code 21 = .ok (.invokevirtual 83, 3) := by decide +kernel
theorem d36_24 : decode jdk_68_method_26_code 24 = .ok (.ifCond .eq 38, 3) := by decide +kernel
theorem d36_27 : decode jdk_68_method_26_code 27 = .ok (.aload_n 2, 1) := by decide +kernel
theorem d36_28 : decode jdk_68_method_26_code 28 = .ok (.iload_n 1, 1) := by decide +kernel
theorem d36_29 : decode jdk_68_method_26_code 29 = .ok (.iinc 1 1, 3) := by decide +kernel
theorem d36_32 : decode jdk_68_method_26_code 32 = .ok (.bipush 110, 2) := by decide +kernel
theorem d36_34 : decode jdk_68_method_26_code 34 = .ok (.bastore, 1) := by decide +kernel
theorem d36_35 : decode jdk_68_method_26_code 35 = .ok (.aload_n 2, 1) := by decide +kernel
theorem d36_36 : decode jdk_68_method_26_code 36 = .ok (.iload_n 1, 1) := by decide +kernel
theorem d36_37 : decode jdk_68_method_26_code 37 = .ok (.iinc 1 1, 3) := by decide +kernel
theorem d36_40 : decode jdk_68_method_26_code 40 = .ok (.bipush 117, 2) := by decide +kernel
theorem d36_42 : decode jdk_68_method_26_code 42 = .ok (.bastore, 1) := by decide +kernel
theorem d36_43 : decode jdk_68_method_26_code 43 = .ok (.aload_n 2, 1) := by decide +kernel
theorem d36_44 : decode jdk_68_method_26_code 44 = .ok (.iload_n 1, 1) := by decide +kernel
theorem d36_45 : decode jdk_68_method_26_code 45 = .ok (.iinc 1 1, 3) := by decide +kernel
theorem d36_48 : decode jdk_68_method_26_code 48 = .ok (.bipush 108, 2) := by decide +kernel
theorem d36_50 : decode jdk_68_method_26_code 50 = .ok (.bastore, 1) := by decide +kernel
theorem d36_51 : decode jdk_68_method_26_code 51 = .ok (.aload_n 2, 1) := by decide +kernel
theorem d36_52 : decode jdk_68_method_26_code 52 = .ok (.iload_n 1, 1) := by decide +kernel
theorem d36_53 : decode jdk_68_method_26_code 53 = .ok (.iinc 1 1, 3) := by decide +kernel
theorem d36_56 : decode jdk_68_method_26_code 56 = .ok (.bipush 108, 2) := by decide +kernel
theorem d36_58 : decode jdk_68_method_26_code 58 = .ok (.bastore, 1) := by decide +kernel
theorem d36_59 : decode jdk_68_method_26_code 59 = .ok (.goto 17, 3) := by decide +kernel
theorem d36_76 : decode jdk_68_method_26_code 76 = .ok (.aload_n 0, 1) := by decide +kernel
theorem d36_77 : decode jdk_68_method_26_code 77 = .ok (.iload_n 1, 1) := by decide +kernel
theorem d36_78 : decode jdk_68_method_26_code 78 = .ok (.putfield 79, 3) := by decide +kernel
theorem d36_81 : decode jdk_68_method_26_code 81 = .ok (.aload_n 0, 1) := by decide +kernel
theorem d36_82 : decode jdk_68_method_26_code 82 = .ok (.areturn, 1) := by decide +kernel
theorem pn_86806336 : plainFor (⟨"java/lang/AbstractStringBuilder", "appendNull", "()Ljava/lang/AbstractStringBuilder;"⟩ : MethodName) = true := by first | exact plainFor_of_name (by first | (simp [plainName, overriddenIn]; done) | decide +kernel) | decide +kernel
set_option maxRecDepth 65536 in
set_option maxHeartbeats 4000000 in
theorem ct_anl (G : Own.Gx) (hw : ∀ d ∈ tables_1, d.before G.a0 G.Z = true) (hC : Own.CSt G) {As : List Own.Ent} {Li : List Own.LitE} (o b : Addr) (xs : List Int32) (cap : Nat) (hxc : xs.length ≤ cap) (hcap : cap ≤ 4000) (N : Nat) (hl : xs.length + 4 ≤ 4000) (hN : Own.grow cap (xs.length + 4) ≤ N) (hN4 : N ≤ 4000) :
    Own.Ct G [] (⟨"java/lang/AbstractStringBuilder", "appendNull", "()Ljava/lang/AbstractStringBuilder;"⟩ : MethodName) jdk_68_method_26_code 3 (some (.object "java/lang/AbstractStringBuilder")) ({ frames := 4, cells := 1, slots := N, locals := 62 } : Room) [.ref o] ((o, true, Own.obj "java/lang/StringBuilder" F_java_lang_StringBuilder [.ref b, .int 0, .int xs.length.toInt32, .int 0]) :: (b, true, Own.arr .byte (Own.pad xs cap)) :: As) Li (fun v A L => ∃ b2 A0, v = some (.ref o) ∧ A = ((o, true, Own.obj "java/lang/StringBuilder" F_java_lang_StringBuilder [.ref b2, .int 0, .int (xs ++ [110, 117, 108, 108]).length.toInt32, .int 0]) :: (b2, true, Own.arr .byte (Own.pad (xs ++ [110, 117, 108, 108]) (Own.grow cap (xs.length + 4)))) :: A0) ∧ Own.Sub As A0 ∧ Li = L) := by
  refine Own.Ct.intro pn_86806336 (Ls := [.val (.ref o), .unset, .unset]) rfl rfl ?_
  intro K
  refine Own.W.aloadN (pc := 0) d36_0 rfl rfl ?_
  refine Own.W.aloadN (pc := 1) d36_1 rfl rfl ?_
  refine Own.W.getF (pc := 2) (host := "") (Or.inl (hw _ (List.mem_of_getElem? (i := 78) rfl))) (Via.refl (O := "java/lang/AbstractStringBuilder")) d36_2 (by repeat (first | exact List.Mem.head _ | assumption | exact List.mem_append_right _ (List.Mem.head _) | apply List.Mem.tail)) (by repeat (first | exact Own.FAt.head | apply Own.FAt.tail)) ?_
  refine Own.W.iconst (pc := 5) (z := (4 : Int32)) d36_5 (by decide) ?_
  refine Own.W.iadd (pc := 6) d36_6 (z := (xs.length + 4).toInt32) (Own.n_add _ 4) ?_
  refine Own.W.callV (pc := 7) (ct_eci G hw o b xs cap hxc hcap (xs.length + 4) N hl hN hN4) d36_7 (C := "java/lang/StringBuilder") (Own.Is.mem (List.Mem.head _)) (hw _ (List.mem_of_getElem? (i := 80) rfl)) (Own.decl_of (hw _ (List.mem_of_getElem? (i := 81) rfl)) (hw _ (List.mem_of_getElem? (i := 84) rfl))) (Own.nf_sel (hw _ (List.mem_of_getElem? (i := 83) rfl))) (hw _ (List.mem_of_getElem? (i := 83) rfl)) (hw _ (List.mem_of_getElem? (i := 81) rfl)) (hw _ (List.mem_of_getElem? (i := 48) rfl)) (hw _ (List.mem_of_getElem? (i := 84) rfl)) (by decide) pd_87992021 rfl rfl (Nat.le_of_ble_eq_true rfl) (Nat.le_of_ble_eq_true rfl) (by first | exact Nat.le_of_ble_eq_true rfl | (simp; done) | (simp; omega)) (by first | exact Nat.le_of_ble_eq_true rfl | (simp; done) | (simp; omega)) ?_
  rintro _ _ _ ⟨b2, A0, rfl, rfl, hsub, rfl⟩
  have hge : xs.length + 4 ≤ (Own.grow cap (xs.length + 4)) := Own.grow_ge
  refine Own.W.aloadN (pc := 10) d36_10 rfl rfl ?_
  refine Own.W.getF (pc := 11) (host := "") (Or.inl (hw _ (List.mem_of_getElem? (i := 78) rfl))) (Via.refl (O := "java/lang/AbstractStringBuilder")) d36_11 (by repeat (first | exact List.Mem.head _ | assumption | exact List.mem_append_right _ (List.Mem.head _) | apply List.Mem.tail)) (by repeat (first | exact Own.FAt.head | apply Own.FAt.tail)) ?_
  refine Own.W.istoreN (pc := 14) (Ls' := [_, _, _]) d36_14 rfl rfl ?_
  refine Own.W.aloadN (pc := 15) d36_15 rfl rfl ?_
  refine Own.W.getF (pc := 16) (host := "") (Or.inl (hw _ (List.mem_of_getElem? (i := 52) rfl))) (Via.refl (O := "java/lang/AbstractStringBuilder")) d36_16 (by repeat (first | exact List.Mem.head _ | assumption | exact List.mem_append_right _ (List.Mem.head _) | apply List.Mem.tail)) (by repeat (first | exact Own.FAt.head | apply Own.FAt.tail)) ?_
  refine Own.W.astoreN (pc := 19) (Ls' := [_, _, _]) d36_19 rfl rfl rfl ?_
  refine Own.W.aloadN (pc := 20) d36_20 rfl rfl ?_
  refine Own.W.callV (pc := 21) (ct_sis G hw hC o b2 _ (List.Mem.head _)) d36_21 (C := "java/lang/StringBuilder") (Own.Is.mem (List.Mem.head _)) (hw _ (List.mem_of_getElem? (i := 253) rfl)) (hw _ (List.mem_of_getElem? (i := 131) rfl)) (Own.nf_sel (hw _ (List.mem_of_getElem? (i := 133) rfl))) (hw _ (List.mem_of_getElem? (i := 133) rfl)) (hw _ (List.mem_of_getElem? (i := 132) rfl)) (hw _ (List.mem_of_getElem? (i := 48) rfl)) (hw _ (List.mem_of_getElem? (i := 134) rfl)) (by decide) pd_93422000 rfl rfl (Nat.le_of_ble_eq_true rfl) (Nat.le_of_ble_eq_true rfl) (by first | exact Nat.le_of_ble_eq_true rfl | (simp; done) | (simp; omega)) (by first | exact Nat.le_of_ble_eq_true rfl | (simp; done) | (simp; omega)) ?_
  rintro _ _ _ ⟨rfl, rfl, rfl⟩
  refine Own.W.if_eq (pc := 24) 62 d36_24 (by decide) (by decide) (fun h24 => absurd h24 (by decide)) ?_
  intro h24
  refine Own.W.aloadN (pc := 27) d36_27 rfl rfl ?_
  refine Own.W.iloadN (pc := 28) d36_28 rfl ?_
  refine Own.W.iinc (pc := 29) (z := (1 : Int32)) (Ls' := [_, _, _]) d36_29 rfl (by decide) rfl rfl ?_
  rw [Own.n_succ]
  refine Own.W.bipush (pc := 32) (z := (110 : Int32)) d36_32 (by decide) ?_
  refine Own.W.bastore (pc := 34) d36_34 (Own.n_nn (by omega)) (i := xs.length + 0) (Own.n_clamp (by omega)) (by rw [Own.pad_len (by first | omega | (simp; omega))]; omega) (u := .int 110) (by decide) (own_ps0 (by simp) (by omega)) (Own.Upd.tail Own.Upd.head) ?_
  refine Own.W.aloadN (pc := 35) d36_35 rfl rfl ?_
  refine Own.W.iloadN (pc := 36) d36_36 rfl ?_
  refine Own.W.iinc (pc := 37) (z := (1 : Int32)) (Ls' := [_, _, _]) d36_37 rfl (by decide) rfl rfl ?_
  rw [Own.n_succ]
  refine Own.W.bipush (pc := 40) (z := (117 : Int32)) d36_40 (by decide) ?_
  refine Own.W.bastore (pc := 42) d36_42 (Own.n_nn (by omega)) (i := xs.length + 1) (Own.n_clamp (by omega)) (by rw [Own.pad_len (by first | omega | (simp; omega))]; omega) (u := .int 117) (by decide) (own_ps0 (by simp) (by omega)) (Own.Upd.tail Own.Upd.head) ?_
  refine Own.W.aloadN (pc := 43) d36_43 rfl rfl ?_
  refine Own.W.iloadN (pc := 44) d36_44 rfl ?_
  refine Own.W.iinc (pc := 45) (z := (1 : Int32)) (Ls' := [_, _, _]) d36_45 rfl (by decide) rfl rfl ?_
  rw [Own.n_succ]
  refine Own.W.bipush (pc := 48) (z := (108 : Int32)) d36_48 (by decide) ?_
  refine Own.W.bastore (pc := 50) d36_50 (Own.n_nn (by omega)) (i := xs.length + 2) (Own.n_clamp (by omega)) (by rw [Own.pad_len (by first | omega | (simp; omega))]; omega) (u := .int 108) (by decide) (own_ps0 (by simp) (by omega)) (Own.Upd.tail Own.Upd.head) ?_
  refine Own.W.aloadN (pc := 51) d36_51 rfl rfl ?_
  refine Own.W.iloadN (pc := 52) d36_52 rfl ?_
  refine Own.W.iinc (pc := 53) (z := (1 : Int32)) (Ls' := [_, _, _]) d36_53 rfl (by decide) rfl rfl ?_
  rw [Own.n_succ]
  refine Own.W.bipush (pc := 56) (z := (108 : Int32)) d36_56 (by decide) ?_
  refine Own.W.bastore (pc := 58) d36_58 (Own.n_nn (by omega)) (i := xs.length + 3) (Own.n_clamp (by omega)) (by rw [Own.pad_len (by first | omega | (simp; omega))]; omega) (u := .int 108) (by decide) (own_ps0 (by simp) (by omega)) (Own.Upd.tail Own.Upd.head) ?_
  refine Own.W.goto (pc := 59) 76 d36_59 (by decide) (by decide) ?_
  refine Own.W.aloadN (pc := 76) d36_76 rfl rfl ?_
  refine Own.W.iloadN (pc := 77) d36_77 rfl ?_
  rw [show xs ++ [110] ++ [117] ++ [108] ++ [108] = xs ++ [110, 117, 108, 108] from by simp, show xs.length + 1 + 1 + 1 + 1 = (xs ++ [110, 117, 108, 108]).length from by simp]
  refine Own.W.putF (pc := 78) (host := "") (Or.inl (hw _ (List.mem_of_getElem? (i := 78) rfl))) (Via.refl (O := "java/lang/AbstractStringBuilder")) d36_78 (Or.inl (hw _ (List.mem_of_getElem? (i := 79) rfl))) (hw _ (List.mem_of_getElem? (i := 39) rfl)) (ty := .int) (by decide) rfl rfl (by repeat (first | exact Own.Upd.head | exact Own.Upd.mid | apply Own.Upd.tail)) (by repeat (first | exact Own.FUp.head | apply Own.FUp.tail)) ?_
  refine Own.W.aloadN (pc := 81) d36_81 rfl rfl ?_
  refine Own.W.aret (pc := 82) d36_82 rfl rfl rfl ?_ (by first | exact Nat.le_of_ble_eq_true rfl | (simp; done) | (simp; omega)) (by first | exact Nat.le_of_ble_eq_true rfl | (simp; done) | (simp; omega))
  exact ⟨b2, A0, rfl, rfl, hsub, rfl⟩
theorem d10_4 : decode jdk_68_method_22_code 4 = .ok (.aload_n 0, 1) := by decide +kernel
theorem d10_5 : decode jdk_68_method_22_code 5 = .ok (.invokevirtual 204, 3) := by decide +kernel
theorem pd_2113585 : parseMethodDescriptor "()Ljava/lang/AbstractStringBuilder;" = some ⟨[], some (.object "java/lang/AbstractStringBuilder")⟩ := by decide +kernel
theorem d10_8 : decode jdk_68_method_22_code 8 = .ok (.areturn, 1) := by decide +kernel
set_option maxRecDepth 65536 in
set_option maxHeartbeats 4000000 in
theorem ct_aan (G : Own.Gx) (hw : ∀ d ∈ tables_1, d.before G.a0 G.Z = true) (hC : Own.CSt G) {As : List Own.Ent} {Li : List Own.LitE} (o b : Addr) (xs : List Int32) (cap : Nat) (hxc : xs.length ≤ cap) (hcap : cap ≤ 4000) (N : Nat) (hl : xs.length + 4 ≤ 4000) (hN : Own.grow cap (xs.length + 4) ≤ N) (hN4 : N ≤ 4000) :
    Own.Ct G [] (⟨"java/lang/AbstractStringBuilder", "append", "(Ljava/lang/String;)Ljava/lang/AbstractStringBuilder;"⟩ : MethodName) jdk_68_method_22_code 3 (some (.object "java/lang/AbstractStringBuilder")) ({ frames := 5, cells := 1, slots := N, locals := 76 } : Room) [.ref o, .null] ((o, true, Own.obj "java/lang/StringBuilder" F_java_lang_StringBuilder [.ref b, .int 0, .int xs.length.toInt32, .int 0]) :: (b, true, Own.arr .byte (Own.pad xs cap)) :: As) Li (fun v A L => ∃ b2 A0, v = some (.ref o) ∧ A = ((o, true, Own.obj "java/lang/StringBuilder" F_java_lang_StringBuilder [.ref b2, .int 0, .int (xs ++ [110, 117, 108, 108]).length.toInt32, .int 0]) :: (b2, true, Own.arr .byte (Own.pad (xs ++ [110, 117, 108, 108]) (Own.grow cap (xs.length + 4)))) :: A0) ∧ Own.Sub As A0 ∧ Li = L) := by
  refine Own.Ct.intro pn_39640229 (Ls := [.val (.ref o), .val (.null), .unset]) rfl rfl ?_
  intro K
  refine Own.W.aloadN (pc := 0) d10_0 rfl rfl ?_
  refine Own.W.nonnullN (pc := 1) d10_1 ?_
  refine Own.W.aloadN (pc := 4) d10_4 rfl rfl ?_
  refine Own.W.callV (pc := 5) (ct_anl G hw hC o b xs cap hxc hcap N hl hN hN4) d10_5 (C := "java/lang/StringBuilder") (Own.Is.mem (List.Mem.head _)) (hw _ (List.mem_of_getElem? (i := 231) rfl)) (Own.decl_of (hw _ (List.mem_of_getElem? (i := 232) rfl)) (hw _ (List.mem_of_getElem? (i := 235) rfl))) (Own.nf_sel (hw _ (List.mem_of_getElem? (i := 234) rfl))) (hw _ (List.mem_of_getElem? (i := 234) rfl)) (hw _ (List.mem_of_getElem? (i := 232) rfl)) (hw _ (List.mem_of_getElem? (i := 48) rfl)) (hw _ (List.mem_of_getElem? (i := 235) rfl)) (by decide) pd_2113585 rfl rfl (Nat.le_of_ble_eq_true rfl) (Nat.le_of_ble_eq_true rfl) (by first | exact Nat.le_of_ble_eq_true rfl | (simp; done) | (simp; omega)) (by first | exact Nat.le_of_ble_eq_true rfl | (simp; done) | (simp; omega)) ?_
  rintro _ _ _ ⟨b2, A0, rfl, rfl, hsub, rfl⟩
  refine Own.W.aret (pc := 8) d10_8 rfl rfl rfl ?_ (by first | exact Nat.le_of_ble_eq_true rfl | (simp; done) | (simp; omega)) (by first | exact Nat.le_of_ble_eq_true rfl | (simp; done) | (simp; omega))
  exact ⟨b2, A0, rfl, rfl, hsub, rfl⟩
set_option maxRecDepth 65536 in
set_option maxHeartbeats 4000000 in
theorem ct_apn (G : Own.Gx) (hw : ∀ d ∈ tables_1, d.before G.a0 G.Z = true) (hC : Own.CSt G) {As : List Own.Ent} {Li : List Own.LitE} (o b : Addr) (xs : List Int32) (cap : Nat) (hxc : xs.length ≤ cap) (hcap : cap ≤ 4000) (N : Nat) (hl : xs.length + 4 ≤ 4000) (hN : Own.grow cap (xs.length + 4) ≤ N) (hN4 : N ≤ 4000) :
    Own.Ct G [] (⟨"java/lang/StringBuilder", "append", "(Ljava/lang/String;)Ljava/lang/StringBuilder;"⟩ : MethodName) jdk_67_method_7_code 2 (some (.object "java/lang/StringBuilder")) ({ frames := 6, cells := 1, slots := N, locals := 90 } : Room) [.ref o, .null] ((o, true, Own.obj "java/lang/StringBuilder" F_java_lang_StringBuilder [.ref b, .int 0, .int xs.length.toInt32, .int 0]) :: (b, true, Own.arr .byte (Own.pad xs cap)) :: As) Li (fun v A L => ∃ b2 A0, v = some (.ref o) ∧ A = ((o, true, Own.obj "java/lang/StringBuilder" F_java_lang_StringBuilder [.ref b2, .int 0, .int (xs ++ [110, 117, 108, 108]).length.toInt32, .int 0]) :: (b2, true, Own.arr .byte (Own.pad (xs ++ [110, 117, 108, 108]) (Own.grow cap (xs.length + 4)))) :: A0) ∧ Own.Sub As A0 ∧ Li = L) := by
  refine Own.Ct.intro pn_12648445 (Ls := [.val (.ref o), .val (.null)]) rfl rfl ?_
  intro K
  refine Own.W.aloadN (pc := 0) d9_0 rfl rfl ?_
  refine Own.W.aloadN (pc := 1) d9_1 rfl rfl ?_
  refine Own.W.callX (pc := 2) (ct_aan G hw hC o b xs cap hxc hcap N hl hN hN4) d9_2 (C := "java/lang/StringBuilder") (Own.Is.mem (List.Mem.head _)) (hw _ (List.mem_of_getElem? (i := 62) rfl)) (Own.same_of (hw _ (List.mem_of_getElem? (i := 63) rfl)) (hw _ (List.mem_of_getElem? (i := 83) rfl)) rfl (by decide)) (hw _ (List.mem_of_getElem? (i := 63) rfl)) (hw _ (List.mem_of_getElem? (i := 64) rfl)) (by decide) (hw _ (List.mem_of_getElem? (i := 48) rfl)) (hw _ (List.mem_of_getElem? (i := 66) rfl)) pd_29712177 rfl rfl (Nat.le_of_ble_eq_true rfl) (Nat.le_of_ble_eq_true rfl) (by first | exact Nat.le_of_ble_eq_true rfl | (simp; done) | (simp; omega)) (by first | exact Nat.le_of_ble_eq_true rfl | (simp; done) | (simp; omega)) ?_
  rintro _ _ _ ⟨b2, A0, rfl, rfl, hsub, rfl⟩
  refine Own.W.pop (pc := 5) d9_5 rfl ?_
  refine Own.W.aloadN (pc := 6) d9_6 rfl rfl ?_
  refine Own.W.aret (pc := 7) d9_7 rfl rfl rfl ?_ (by first | exact Nat.le_of_ble_eq_true rfl | (simp; done) | (simp; omega)) (by first | exact Nat.le_of_ble_eq_true rfl | (simp; done) | (simp; omega))
  exact ⟨b2, A0, rfl, rfl, hsub, rfl⟩
theorem own_sl (As : List Own.Ent) (a b : Addr) (t : String) : Own.Sub As ((a, false, Own.obj "java/lang/String" Own.litF [.ref b, .int 0]) :: (b, false, Own.arr .byte ((Own.txb t).map Value.int)) :: As) := Own.Sub.cons (Own.Sub.cons (Own.Sub.refl _))
theorem own_ls {As : List Own.Ent} {x : Addr} {vs : List Value} (_ : Own.StrF As x vs) (a b : Addr) (t : String) : Own.StrF ((a, false, Own.obj "java/lang/String" Own.litF [.ref b, .int 0]) :: (b, false, Own.arr .byte ((Own.txb t).map Value.int)) :: As) a ((Own.txb t).map Value.int) := Own.StrF.lit (List.Mem.head _) (List.Mem.tail _ (List.Mem.head _))
theorem own_gb {cap need N : Nat} (h1 : cap ≤ N) (h2 : need ≤ cap ∨ (need ≤ N ∧ 2 * cap + 2 ≤ N)) : Own.grow cap need ≤ N := by unfold Own.grow; split <;> omega
theorem d35_0 : decode jdk_43_method_13_code 0 = .ok (.aload_n 0, 1) := by decide +kernel
theorem d35_1 : decode jdk_43_method_13_code 1 = .ok (.arraylength, 1) := by decide +kernel
theorem d35_2 : decode jdk_43_method_13_code 2 = .ok (.aload_n 1, 1) := by decide +kernel
theorem d35_3 : decode jdk_43_method_13_code 3 = .ok (.arraylength, 1) := by decide +kernel
theorem d35_4 : decode jdk_43_method_13_code 4 = .ok (.if_icmp .ne 30, 3) := by decide +kernel
theorem d35_7 : decode jdk_43_method_13_code 7 = .ok (.iconst 0, 1) := by decide +kernel
theorem d35_8 : decode jdk_43_method_13_code 8 = .ok (.istore_n 2, 1) := by decide +kernel
theorem d35_9 : decode jdk_43_method_13_code 9 = .ok (.iload_n 2, 1) := by decide +kernel
theorem d35_10 : decode jdk_43_method_13_code 10 = .ok (.aload_n 0, 1) := by decide +kernel
theorem d35_11 : decode jdk_43_method_13_code 11 = .ok (.arraylength, 1) := by decide +kernel
theorem d35_12 : decode jdk_43_method_13_code 12 = .ok (.if_icmp .ge 20, 3) := by decide +kernel
theorem d35_32 : decode jdk_43_method_13_code 32 = .ok (.iconst 1, 1) := by decide +kernel
theorem d35_33 : decode jdk_43_method_13_code 33 = .ok (.ireturn, 1) := by decide +kernel
theorem d35_15 : decode jdk_43_method_13_code 15 = .ok (.aload_n 0, 1) := by decide +kernel
theorem d35_16 : decode jdk_43_method_13_code 16 = .ok (.iload_n 2, 1) := by decide +kernel
theorem d35_17 : decode jdk_43_method_13_code 17 = .ok (.baload, 1) := by decide +kernel
theorem d35_18 : decode jdk_43_method_13_code 18 = .ok (.aload_n 1, 1) := by decide +kernel
theorem d35_19 : decode jdk_43_method_13_code 19 = .ok (.iload_n 2, 1) := by decide +kernel
theorem d35_20 : decode jdk_43_method_13_code 20 = .ok (.baload, 1) := by decide +kernel
theorem d35_21 : decode jdk_43_method_13_code 21 = .ok (.if_icmp .eq 5, 3) := by decide +kernel
theorem d35_26 : decode jdk_43_method_13_code 26 = .ok (.iinc 2 1, 3) := by decide +kernel
theorem d35_29 : decode jdk_43_method_13_code 29 = .ok (.goto (-20), 3) := by decide +kernel
theorem d35_24 : decode jdk_43_method_13_code 24 = .ok (.iconst 0, 1) := by decide +kernel
theorem d35_25 : decode jdk_43_method_13_code 25 = .ok (.ireturn, 1) := by decide +kernel
theorem d35_34 : decode jdk_43_method_13_code 34 = .ok (.iconst 0, 1) := by decide +kernel
theorem d35_35 : decode jdk_43_method_13_code 35 = .ok (.ireturn, 1) := by decide +kernel
theorem pn_94709727 : plainFor (⟨"java/lang/StringLatin1", "equals", "([B[B)Z"⟩ : MethodName) = true := by first | exact plainFor_of_name (by first | (simp [plainName, overriddenIn]; done) | decide +kernel) | decide +kernel
set_option maxRecDepth 65536 in
set_option maxHeartbeats 4000000 in
theorem ct_leq (G : Own.Gx) (hw : ∀ d ∈ tables_1, d.before G.a0 G.Z = true) {As : List Own.Ent} {Li : List Own.LitE} (a b : Addr) (xs zs : List Int32) (hx : xs.length < 2147483648) (hz : zs.length < 2147483648) (ha : Own.AVin G As a .byte (xs.map Value.int)) (hb : Own.AVin G As b .byte (zs.map Value.int)) :
    Own.Ct G [] (⟨"java/lang/StringLatin1", "equals", "([B[B)Z"⟩ : MethodName) jdk_43_method_13_code 3 (some .boolean) ({ frames := 0, cells := 0, slots := 0, locals := 0 } : Room) [.ref a, .ref b] As Li (fun v A L => v = some (.int (Own.eqI xs zs)) ∧ As = A ∧ Li = L) := by
  refine Own.Ct.intro pn_94709727 (Ls := [.val (.ref a), .val (.ref b), .unset]) rfl rfl ?_
  intro K
  refine Own.W.aloadN (pc := 0) d35_0 rfl rfl ?_
  refine Own.W.alen (pc := 1) d35_1 ha (z := xs.length.toInt32) (by simp) ?_
  refine Own.W.aloadN (pc := 2) d35_2 rfl rfl ?_
  refine Own.W.alen (pc := 3) d35_3 hb (z := zs.length.toInt32) (by simp) ?_
  by_cases hl : xs.length = zs.length
  · refine Own.W.ic_ne (pc := 4) 34 d35_4 (by decide) (by decide) (fun h4 => absurd h4 (fun q => q (by rw [hl]))) ?_
    intro h4
    refine Own.W.iconst (pc := 7) (z := (0 : Int32)) d35_7 (by decide) ?_
    refine Own.W.istoreN (pc := 8) (Ls' := [_, _, _]) d35_8 rfl rfl ?_
    suffices loop : ∀ (m k : Nat), k + m = xs.length → (∀ j (h1 : j < xs.length) (h2 : j < zs.length), j < k → xs[j] = zs[j]) → Own.W G K (⟨"java/lang/StringLatin1", "equals", "([B[B)Z"⟩ : MethodName) jdk_43_method_13_code (some .boolean) ({ frames := 0, cells := 0, slots := 0, locals := 0 } : Room) (fun v A L => v = some (.int (Own.eqI xs zs)) ∧ As = A ∧ Li = L) As Li 0 0 9 [.val (.ref a), .val (.ref b), .val (.int k.toInt32)] [] by
      exact loop xs.length 0 (by simp) (fun _ _ _ h => absurd h (Nat.not_lt_zero _))
    intro m
    induction m with
    | zero =>
      intro k hk hall
      obtain rfl : k = xs.length := by omega
      refine Own.W.iloadN (pc := 9) d35_9 rfl ?_
      refine Own.W.aloadN (pc := 10) d35_10 rfl rfl ?_
      refine Own.W.alen (pc := 11) d35_11 ha (z := xs.length.toInt32) (by simp) ?_
      refine Own.W.ic_ge (pc := 12) 32 d35_12 (by decide) (by decide) ?_ (fun h12 => absurd h12 (Own.n_nlt (Nat.le_refl _) hx))
      intro h12
      refine Own.W.iconst (pc := 32) (z := (1 : Int32)) d35_32 (by decide) ?_
      refine Own.W.iret (pc := 33) d35_33 rfl (by simp) (by first | rfl | decide) ?_ (Nat.le_of_ble_eq_true rfl) (Nat.le_of_ble_eq_true rfl)
      exact ⟨by rw [Own.eqI_all hl fun k h1 h2 => hall k h1 h2 h1], rfl, rfl⟩
    | succ m ih =>
      intro k hk hall
      have hkx : k < xs.length := by omega
      have hkz : k < zs.length := by omega
      refine Own.W.iloadN (pc := 9) d35_9 rfl ?_
      refine Own.W.aloadN (pc := 10) d35_10 rfl rfl ?_
      refine Own.W.alen (pc := 11) d35_11 ha (z := xs.length.toInt32) (by simp) ?_
      refine Own.W.ic_ge (pc := 12) 32 d35_12 (by decide) (by decide) (fun h12 => absurd h12 (fun q => q (Own.n_lt hkx hx))) ?_
      intro h12
      refine Own.W.aloadN (pc := 15) d35_15 rfl rfl ?_
      refine Own.W.iloadN (pc := 16) d35_16 rfl ?_
      refine Own.W.baload (pc := 17) d35_17 ha (Own.n_nn (by omega)) (v := .int xs[k]) (by rw [Own.n_clamp (by omega)]; simp [hkx]) ?_
      refine Own.W.aloadN (pc := 18) d35_18 rfl rfl ?_
      refine Own.W.iloadN (pc := 19) d35_19 rfl ?_
      refine Own.W.baload (pc := 20) d35_20 hb (Own.n_nn (by omega)) (v := .int zs[k]) (by rw [Own.n_clamp (by omega)]; simp [hkz]) ?_
      refine Own.W.ic_eq (pc := 21) 26 d35_21 (by decide) (by decide) ?_ ?_
      · intro h21
        refine Own.W.iinc (pc := 26) (z := (1 : Int32)) (Ls' := [_, _, _]) d35_26 rfl (by decide) rfl rfl ?_
        refine Own.W.goto (pc := 29) 9 d35_29 (by decide) (by decide) ?_
        have ih' := ih (k + 1) (by omega) (fun j h1 h2 hj => by
          rcases Nat.lt_or_eq_of_le (Nat.le_of_lt_succ hj) with q | rfl
          · exact hall j h1 h2 q
          · exact h21)
        rw [← Own.n_succ] at ih'
        exact ih'
      · intro h21
        refine Own.W.iconst (pc := 24) (z := (0 : Int32)) d35_24 (by decide) ?_
        refine Own.W.iret (pc := 25) d35_25 rfl (by simp) (by first | rfl | decide) ?_ (Nat.le_of_ble_eq_true rfl) (Nat.le_of_ble_eq_true rfl)
        exact ⟨by rw [Own.eqI_at hkx hkz h21], rfl, rfl⟩
  · refine Own.W.ic_ne (pc := 4) 34 d35_4 (by decide) (by decide) ?_ (fun h4 => absurd h4 (fun q => hl (Own.n_inj hx hz q)))
    intro h4
    refine Own.W.iconst (pc := 34) (z := (0 : Int32)) d35_34 (by decide) ?_
    refine Own.W.iret (pc := 35) d35_35 rfl (by simp) (by first | rfl | decide) ?_ (Nat.le_of_ble_eq_true rfl) (Nat.le_of_ble_eq_true rfl)
    exact ⟨by rw [Own.eqI_len hl], rfl, rfl⟩
theorem d34_0 : decode jdk_42_method_66_code 0 = .ok (.aload_n 0, 1) := by decide +kernel
theorem d34_1 : decode jdk_42_method_66_code 1 = .ok (.aload_n 1, 1) := by decide +kernel
theorem d34_2 : decode jdk_42_method_66_code 2 = .ok (.if_acmp .ne 5, 3) := by decide +kernel
theorem d34_5 : decode jdk_42_method_66_code 5 = .ok (.iconst 1, 1) := by decide +kernel
theorem d34_6 : decode jdk_42_method_66_code 6 = .ok (.ireturn, 1) := by decide +kernel
theorem d34_7 : decode jdk_42_method_66_code 7 = .ok (.aload_n 1, 1) := by decide +kernel
theorem d34_8 : decode jdk_42_method_66_code 8 = .ok (.instanceof 10, 3) := by decide +kernel
theorem d34_11 : decode jdk_42_method_66_code 11 = .ok (.ifCond .eq 43, 3) := by decide +kernel
theorem d34_14 : decode jdk_42_method_66_code 14 = .ok (.aload_n 1, 1) := by decide +kernel
theorem d34_15 : decode jdk_42_method_66_code 15 = .ok (.checkcast 10, 3) := by decide +kernel
theorem d34_18 : decode jdk_42_method_66_code 18 = .ok (.astore_n 2, 1) := by decide +kernel
theorem d34_19 : decode jdk_42_method_66_code 19 = .ok (.getstatic 38, 3) := by decide +kernel
theorem d34_22 : decode jdk_42_method_66_code 22 = .ok (.ifCond .eq 14, 3) := by decide +kernel
theorem d34_25 : decode jdk_42_method_66_code 25 = .ok (.aload_n 0, 1) := by decide +kernel
theorem d34_26 : decode jdk_42_method_66_code 26 = .ok (.getfield 15, 3) := by decide +kernel
theorem d34_29 : decode jdk_42_method_66_code 29 = .ok (.aload_n 2, 1) := by decide +kernel
theorem d34_30 : decode jdk_42_method_66_code 30 = .ok (.getfield 15, 3) := by decide +kernel
theorem d34_33 : decode jdk_42_method_66_code 33 = .ok (.if_icmp .ne 21, 3) := by decide +kernel
theorem d34_36 : decode jdk_42_method_66_code 36 = .ok (.aload_n 0, 1) := by decide +kernel
theorem d34_37 : decode jdk_42_method_66_code 37 = .ok (.getfield 9, 3) := by decide +kernel
theorem d34_40 : decode jdk_42_method_66_code 40 = .ok (.aload_n 2, 1) := by decide +kernel
theorem d34_41 : decode jdk_42_method_66_code 41 = .ok (.getfield 9, 3) := by decide +kernel
theorem d34_44 : decode jdk_42_method_66_code 44 = .ok (.invokestatic 541, 3) := by decide +kernel
theorem pd_24935658 : parseMethodDescriptor "([B[B)Z" = some ⟨[(.array .byte), (.array .byte)], some .boolean⟩ := by decide +kernel
theorem d34_47 : decode jdk_42_method_66_code 47 = .ok (.ifCond .eq 7, 3) := by decide +kernel
theorem d34_50 : decode jdk_42_method_66_code 50 = .ok (.iconst 1, 1) := by decide +kernel
theorem d34_51 : decode jdk_42_method_66_code 51 = .ok (.goto 4, 3) := by decide +kernel
theorem d34_55 : decode jdk_42_method_66_code 55 = .ok (.ireturn, 1) := by decide +kernel
theorem d34_54 : decode jdk_42_method_66_code 54 = .ok (.iconst 0, 1) := by decide +kernel
theorem pn_54399388 : plainFor (⟨"java/lang/String", "equals", "(Ljava/lang/Object;)Z"⟩ : MethodName) = true := by first | exact plainFor_of_name (by first | (simp [plainName, overriddenIn]; done) | decide +kernel) | decide +kernel
set_option maxRecDepth 65536 in
set_option maxHeartbeats 4000000 in
theorem ct_seq (G : Own.Gx) (hw : ∀ d ∈ tables_1, d.before G.a0 G.Z = true) (hC : Own.CSt G) {As : List Own.Ent} {Li : List Own.LitE} (z : Int32) (a b : Addr) (xs zs : List Int32) (hx : xs.length < 2147483648) (hz : zs.length < 2147483648) (ha : Own.StrIn G As a (xs.map Value.int) z) (hb : Own.StrIn G As b (zs.map Value.int) z) :
    Own.Ct G [] (⟨"java/lang/String", "equals", "(Ljava/lang/Object;)Z"⟩ : MethodName) jdk_42_method_66_code 3 (some .boolean) ({ frames := 1, cells := 0, slots := 0, locals := 14 } : Room) [.ref a, .ref b] As Li (fun v A L => v = some (.int (Own.eqI xs zs)) ∧ As = A ∧ Li = L) := by
  refine Own.Ct.intro pn_54399388 (Ls := [.val (.ref a), .val (.ref b), .unset]) rfl rfl ?_
  intro K
  obtain ⟨cz, hC1, hC2⟩ := hC
  obtain ⟨ab, a1, a2, a3, a4⟩ := id ha
  obtain ⟨bb, b1, b2, b3, b4⟩ := id hb
  refine Own.W.aloadN (pc := 0) d34_0 rfl rfl ?_
  refine Own.W.aloadN (pc := 1) d34_1 rfl rfl ?_
  by_cases hab : a = b
  · subst hab
    refine Own.W.know fun h I => ?_
    obtain rfl : xs = zs := Own.map_int_inj (ha.uniq I hb)
    refine Own.W.ac0 (pc := 2) d34_2 rfl rfl (by simp [Jvm.Free.XT.acmp]) ?_
    refine Own.W.iconst (pc := 5) (z := (1 : Int32)) d34_5 (by decide) ?_
    refine Own.W.iret (pc := 6) d34_6 rfl (by simp) (by first | rfl | decide) ?_ (Nat.le_of_ble_eq_true rfl) (Nat.le_of_ble_eq_true rfl)
    exact ⟨by rw [Own.eqI_self], rfl, rfl⟩
  · refine Own.W.ac1 (pc := 2) 7 d34_2 (by decide) (by decide) rfl rfl (by simp [Jvm.Free.XT.acmp, hab]) ?_
    refine Own.W.aloadN (pc := 7) d34_7 rfl rfl ?_
    refine Own.W.inst (pc := 8) (hw _ (List.mem_of_getElem? (i := 219) rfl)) d34_8 b1 (Or.inl rfl) ?_
    refine Own.W.if_eq (pc := 11) 54 d34_11 (by decide) (by decide) (fun h11 => absurd h11 (by decide)) ?_
    intro h11
    refine Own.W.aloadN (pc := 14) d34_14 rfl rfl ?_
    refine Own.W.cast (pc := 15) (hw _ (List.mem_of_getElem? (i := 219) rfl)) d34_15 b1 (Or.inl rfl) ?_
    refine Own.W.astoreN (pc := 18) (Ls' := [_, _, _]) d34_18 rfl rfl rfl ?_
    refine Own.W.getS (pc := 19) (host := "") (Or.inl (hw _ (List.mem_of_getElem? (i := 77) rfl))) (Via.refl (O := "java/lang/String")) d34_19 hC1 ?_
    refine Own.W.if_eq (pc := 22) 36 d34_22 (by decide) (by decide) (fun h22 => absurd h22 hC2) ?_
    intro h22
    refine Own.W.aloadN (pc := 25) d34_25 rfl rfl ?_
    refine Own.W.getI (pc := 26) (host := "") (Or.inl (hw _ (List.mem_of_getElem? (i := 26) rfl))) (Via.refl (O := "java/lang/String")) d34_26 a3 ?_
    refine Own.W.aloadN (pc := 29) d34_29 rfl rfl ?_
    refine Own.W.getI (pc := 30) (host := "") (Or.inl (hw _ (List.mem_of_getElem? (i := 26) rfl))) (Via.refl (O := "java/lang/String")) d34_30 b3 ?_
    refine Own.W.ic_ne (pc := 33) 54 d34_33 (by decide) (by decide) (fun h33 => absurd h33 (fun q => q rfl)) ?_
    intro h33
    refine Own.W.aloadN (pc := 36) d34_36 rfl rfl ?_
    refine Own.W.getI (pc := 37) (host := "") (Or.inl (hw _ (List.mem_of_getElem? (i := 25) rfl))) (Via.refl (O := "java/lang/String")) d34_37 a2 ?_
    refine Own.W.aloadN (pc := 40) d34_40 rfl rfl ?_
    refine Own.W.getI (pc := 41) (host := "") (Or.inl (hw _ (List.mem_of_getElem? (i := 25) rfl))) (Via.refl (O := "java/lang/String")) d34_41 b2 ?_
    refine Own.W.callS (pc := 44) (ct_leq G hw ab bb xs zs hx hz a4 b4) d34_44 (hw _ (List.mem_of_getElem? (i := 220) rfl)) (hw _ (List.mem_of_getElem? (i := 221) rfl)) (hw _ (List.mem_of_getElem? (i := 222) rfl)) (hw _ (List.mem_of_getElem? (i := 223) rfl)) (by decide) pd_24935658 rfl rfl (Nat.le_of_ble_eq_true rfl) (Nat.le_of_ble_eq_true rfl) (Nat.le_of_ble_eq_true rfl) (Nat.le_of_ble_eq_true rfl) ?_
    rintro _ _ _ ⟨rfl, rfl, rfl⟩
    by_cases he : xs = zs
    · have e1 : Own.eqI xs zs = 1 := if_pos he
      rw [e1]
      refine Own.W.if_eq (pc := 47) 54 d34_47 (by decide) (by decide) (fun h47 => absurd h47 (by decide)) ?_
      intro h47
      refine Own.W.iconst (pc := 50) (z := (1 : Int32)) d34_50 (by decide) ?_
      refine Own.W.goto (pc := 51) 55 d34_51 (by decide) (by decide) ?_
      refine Own.W.iret (pc := 55) d34_55 rfl (by simp) (by first | rfl | decide) ?_ (Nat.le_of_ble_eq_true rfl) (Nat.le_of_ble_eq_true rfl)
      exact ⟨by first | rfl | rw [e1], rfl, rfl⟩
    · have e1 : Own.eqI xs zs = 0 := if_neg he
      rw [e1]
      refine Own.W.if_eq (pc := 47) 54 d34_47 (by decide) (by decide) ?_ (fun h47 => absurd h47 (fun q => q rfl))
      intro h47
      refine Own.W.iconst (pc := 54) (z := (0 : Int32)) d34_54 (by decide) ?_
      refine Own.W.iret (pc := 55) d34_55 rfl (by simp) (by first | rfl | decide) ?_ (Nat.le_of_ble_eq_true rfl) (Nat.le_of_ble_eq_true rfl)
      exact ⟨by first | rfl | rw [e1], rfl, rfl⟩
theorem own_ia_w (G : Own.Gx) (hw : ∀ d ∈ tables_1, d.before G.a0 G.Z = true) : ∀ d ∈ Own.thA "java/lang/IllegalArgumentException", d.before G.a0 G.Z = true := fun d hd => by
  simp only [Own.thA, List.mem_cons, List.not_mem_nil, or_false] at hd
  rcases hd with rfl | rfl | rfl | rfl | rfl | rfl | rfl | rfl | rfl | rfl | rfl | rfl | rfl | rfl | rfl | rfl | rfl | rfl | rfl | rfl | rfl | rfl | rfl | rfl | rfl | rfl | rfl | rfl | rfl | rfl | rfl | rfl | rfl | rfl | rfl | rfl
  · exact (hw _ (List.mem_of_getElem? (i := 169) rfl))
  · exact (hw _ (List.mem_of_getElem? (i := 187) rfl))
  · exact (hw _ (List.mem_of_getElem? (i := 182) rfl))
  · exact (hw _ (List.mem_of_getElem? (i := 188) rfl))
  · exact (hw _ (List.mem_of_getElem? (i := 189) rfl))
  · exact (hw _ (List.mem_of_getElem? (i := 190) rfl))
  · exact (hw _ (List.mem_of_getElem? (i := 191) rfl))
  · exact (hw _ (List.mem_of_getElem? (i := 192) rfl))
  · exact (hw _ (List.mem_of_getElem? (i := 17) rfl))
  · exact (hw _ (List.mem_of_getElem? (i := 18) rfl))
  · exact (hw _ (List.mem_of_getElem? (i := 171) rfl))
  · exact (hw _ (List.mem_of_getElem? (i := 180) rfl))
  · exact (hw _ (List.mem_of_getElem? (i := 193) rfl))
  · exact (hw _ (List.mem_of_getElem? (i := 172) rfl))
  · exact (hw _ (List.mem_of_getElem? (i := 173) rfl))
  · exact (hw _ (List.mem_of_getElem? (i := 175) rfl))
  · exact (hw _ (List.mem_of_getElem? (i := 176) rfl))
  · exact (hw _ (List.mem_of_getElem? (i := 178) rfl))
  · exact (hw _ (List.mem_of_getElem? (i := 179) rfl))
  · exact (hw _ (List.mem_of_getElem? (i := 174) rfl))
  · exact (hw _ (List.mem_of_getElem? (i := 200) rfl))
  · exact (hw _ (List.mem_of_getElem? (i := 177) rfl))
  · exact (hw _ (List.mem_of_getElem? (i := 201) rfl))
  · exact (hw _ (List.mem_of_getElem? (i := 207) rfl))
  · exact (hw _ (List.mem_of_getElem? (i := 203) rfl))
  · exact (hw _ (List.mem_of_getElem? (i := 196) rfl))
  · exact (hw _ (List.mem_of_getElem? (i := 166) rfl))
  · exact (hw _ (List.mem_of_getElem? (i := 170) rfl))
  · exact (hw _ (List.mem_of_getElem? (i := 198) rfl))
  · exact (hw _ (List.mem_of_getElem? (i := 204) rfl))
  · exact (hw _ (List.mem_of_getElem? (i := 205) rfl))
  · exact (hw _ (List.mem_of_getElem? (i := 202) rfl))
  · exact (hw _ (List.mem_of_getElem? (i := 183) rfl))
  · exact (hw _ (List.mem_of_getElem? (i := 184) rfl))
  · exact (hw _ (List.mem_of_getElem? (i := 185) rfl))
  · exact (hw _ (List.mem_of_getElem? (i := 186) rfl))
def own_ia_F : List Own.Fd := [("java/lang/Throwable", "detailMessage", "Ljava/lang/String;"), ("java/lang/Throwable", "cause", "Ljava/lang/Throwable;")]
theorem own_ia_L (G : Own.Gx) (hw : ∀ d ∈ tables_1, d.before G.a0 G.Z = true) : Own.LaidAll G.Z G.a0 "java/lang/IllegalArgumentException" own_ia_F := ⟨by decide, Own.LaidAll.cons (Or.inl (hw _ (List.mem_of_getElem? (i := 203) rfl))) (t := (.object "java/lang/String")) (by decide) (Own.LaidAll.cons (Or.inl (hw _ (List.mem_of_getElem? (i := 173) rfl))) (t := (.object "java/lang/Throwable")) (by decide) (Own.LaidAll.nil))⟩
theorem own_ia_E (a : Addr) (msg : Value) : Own.ExF a msg F_java_lang_IllegalArgumentException [.null, .null, .null, .null, .null, .int 0] own_ia_F [msg, .ref a] := by
  refine ⟨rfl, fun i f v hf hv => ?_⟩
  match i, hf, hv with
  | 0, hf, hv => cases hf; cases hv; exact Or.inl ⟨rfl, rfl⟩
  | 1, hf, hv => cases hf; cases hv; exact Or.inr (Or.inl ⟨rfl, rfl⟩)

theorem own_mk_ {s : State} (h : Jvm.D.tablesKnown s = true) : s.vm.MethodsKnown := fun m x hx => by
  unfold Vm.method? at hx
  cases hk : s.vm.classes[m.cls]? with
  | none => simp [hk] at hx
  | some k =>
    simp only [hk, Option.bind_eq_bind, Option.bind_some] at hx
    refine ⟨k, hk, fun cf hcf => ?_⟩
    have q := Array.all_eq_true'.mp h k (Array.mem_of_getElem? hk)
    simp only [hcf, beq_iff_eq] at q
    have hi := (Array.getElem?_eq_some_iff.mp hx).1
    rw [Array.getElem?_eq_getElem (by omega)]; rfl
theorem own_fk_ {s : State} (h : Jvm.D.framesKnown s = true) : s.vm.FramesKnown s.frames := fun y hy m' hm' => by
  have q := List.all_eq_true.mp h y hy
  have key : ∀ m, Jvm.D.methodKnown s.vm m = true → s.vm.knowsMethod m := fun m hm => by
    unfold Jvm.D.methodKnown at hm
    cases hk : s.vm.classes[m.cls]? with
    | none => simp [hk] at hm
    | some k =>
      refine ⟨k, hk, fun cf hcf => ?_⟩
      simpa [hk, hcf] using hm
  cases y <;> simp [frameMethod?] at hm' <;> subst hm' <;> exact key _ q
theorem own_st {l : Launch} (h : l.flags = flags0) : l.stackTraces = true := by
  rw [Launch.stackTraces, h]; decide +kernel
theorem d30_0 : decode jdk_59_method_2_code 0 = .ok (.aload_n 0, 1) := by decide +kernel
theorem d30_1 : decode jdk_59_method_2_code 1 = .ok (.aload_n 1, 1) := by decide +kernel
theorem d30_2 : decode jdk_59_method_2_code 2 = .ok (.invokespecial 7, 3) := by decide +kernel
theorem d30_5 : decode jdk_59_method_2_code 5 = .ok (.return_, 1) := by decide +kernel
theorem pn_4537203 : plainFor (⟨"java/lang/Exception", "<init>", "(Ljava/lang/String;)V"⟩ : MethodName) = true := by first | exact plainFor_of_name (by first | (simp [plainName, overriddenIn]; done) | decide +kernel) | decide +kernel
set_option maxRecDepth 65536 in
set_option maxHeartbeats 4000000 in
theorem ct_exi (G : Own.Gx) (hw : ∀ d ∈ tables_1, d.before G.a0 G.Z = true) (hnw : G.nw = false) (hst : G.l.stackTraces = true) (hMK : G.Z.vm.MethodsKnown) (hFK : G.Z.vm.FramesKnown G.Z.frames) (vU vN : Value) (hU : Sta G.Z G.Z.heap "java/lang/Throwable" "UNASSIGNED_STACK" "[Ljava/lang/StackTraceElement;" vU) (rU : vU.isRef = true) (nU : vU ≠ .null) (hN : Sta G.Z G.Z.heap "java/lang/Throwable" "SUPPRESSED_SENTINEL" "Ljava/util/List;" vN) (rN : vN.isRef = true) {As : List Own.Ent} {Li : List Own.LitE} (p s : Addr) :
    Own.Ct G [] (⟨"java/lang/Exception", "<init>", "(Ljava/lang/String;)V"⟩ : MethodName) jdk_59_method_2_code 2 none ({ frames := 3, cells := 1, slots := 2752, locals := 42 } : Room) [.ref p, .ref s] ((p, true, Own.obj "java/lang/IllegalArgumentException" F_java_lang_IllegalArgumentException [.null, .null, .null, .null, .null, .int 0]) :: As) Li (fun v A L => v = none ∧ A = (p, true, Own.obj "java/lang/IllegalArgumentException" own_ia_F [.ref s, .ref p]) :: As ∧ Li = L) := by
  refine Own.Ct.intro pn_4537203 (Ls := [.val (.ref p), .val (.ref s)]) rfl rfl ?_
  intro K
  refine Own.W.aloadN (pc := 0) d30_0 rfl rfl ?_
  refine Own.W.aloadN (pc := 1) d30_1 rfl rfl ?_
  refine Own.W.thr (pc := 2) (fs' := own_ia_F) (vs' := [.ref s, .ref p]) hnw hst hMK hFK hU rU nU hN rN (own_ia_w G hw) (hw _ (List.mem_of_getElem? (i := 36) rfl)) d30_2 (hw _ (List.mem_of_getElem? (i := 165) rfl)) Own.Upd.head (by repeat (first | exact Own.FAt.head | apply Own.FAt.tail)) ⟨_, (by repeat (first | exact Own.FAt.head | apply Own.FAt.tail))⟩ ⟨_, (by repeat (first | exact Own.FAt.head | apply Own.FAt.tail))⟩ (own_ia_E _ _) (own_ia_L G hw) rfl (Nat.le_of_ble_eq_true rfl) (Nat.le_of_ble_eq_true rfl) (Nat.le_of_ble_eq_true rfl) (Nat.le_of_ble_eq_true rfl) ?_
  refine Own.W.vret (pc := 5) d30_5 rfl ?_ (Nat.le_of_ble_eq_true rfl) (Nat.le_of_ble_eq_true rfl)
  exact ⟨rfl, rfl, rfl⟩
theorem d29_0 : decode jdk_58_method_2_code 0 = .ok (.aload_n 0, 1) := by decide +kernel
theorem d29_1 : decode jdk_58_method_2_code 1 = .ok (.aload_n 1, 1) := by decide +kernel
theorem d29_2 : decode jdk_58_method_2_code 2 = .ok (.invokespecial 7, 3) := by decide +kernel
theorem d29_5 : decode jdk_58_method_2_code 5 = .ok (.return_, 1) := by decide +kernel
theorem pn_29978487 : plainFor (⟨"java/lang/RuntimeException", "<init>", "(Ljava/lang/String;)V"⟩ : MethodName) = true := by first | exact plainFor_of_name (by first | (simp [plainName, overriddenIn]; done) | decide +kernel) | decide +kernel
set_option maxRecDepth 65536 in
set_option maxHeartbeats 4000000 in
theorem ct_rte (G : Own.Gx) (hw : ∀ d ∈ tables_1, d.before G.a0 G.Z = true) (hnw : G.nw = false) (hst : G.l.stackTraces = true) (hMK : G.Z.vm.MethodsKnown) (hFK : G.Z.vm.FramesKnown G.Z.frames) (vU vN : Value) (hU : Sta G.Z G.Z.heap "java/lang/Throwable" "UNASSIGNED_STACK" "[Ljava/lang/StackTraceElement;" vU) (rU : vU.isRef = true) (nU : vU ≠ .null) (hN : Sta G.Z G.Z.heap "java/lang/Throwable" "SUPPRESSED_SENTINEL" "Ljava/util/List;" vN) (rN : vN.isRef = true) {As : List Own.Ent} {Li : List Own.LitE} (p s : Addr) :
    Own.Ct G [] (⟨"java/lang/RuntimeException", "<init>", "(Ljava/lang/String;)V"⟩ : MethodName) jdk_58_method_2_code 2 none ({ frames := 4, cells := 1, slots := 2752, locals := 55 } : Room) [.ref p, .ref s] ((p, true, Own.obj "java/lang/IllegalArgumentException" F_java_lang_IllegalArgumentException [.null, .null, .null, .null, .null, .int 0]) :: As) Li (fun v A L => v = none ∧ A = (p, true, Own.obj "java/lang/IllegalArgumentException" own_ia_F [.ref s, .ref p]) :: As ∧ Li = L) := by
  refine Own.Ct.intro pn_29978487 (Ls := [.val (.ref p), .val (.ref s)]) rfl rfl ?_
  intro K
  refine Own.W.aloadN (pc := 0) d29_0 rfl rfl ?_
  refine Own.W.aloadN (pc := 1) d29_1 rfl rfl ?_
  refine Own.W.callI (pc := 2) (ct_exi G hw hnw hst hMK hFK vU vN hU rU nU hN rN p s) d29_2 rfl (hw _ (List.mem_of_getElem? (i := 159) rfl)) (hw _ (List.mem_of_getElem? (i := 160) rfl)) (hw _ (List.mem_of_getElem? (i := 163) rfl)) (hw _ (List.mem_of_getElem? (i := 164) rfl)) (by decide) pd_62450860 rfl rfl (Nat.le_of_ble_eq_true rfl) (Nat.le_of_ble_eq_true rfl) (Nat.le_of_ble_eq_true rfl) (Nat.le_of_ble_eq_true rfl) ?_
  rintro _ _ _ ⟨rfl, rfl, rfl⟩
  refine Own.W.vret (pc := 5) d29_5 rfl ?_ (Nat.le_of_ble_eq_true rfl) (Nat.le_of_ble_eq_true rfl)
  exact ⟨rfl, rfl, rfl⟩
theorem d28_0 : decode jdk_57_method_2_code 0 = .ok (.aload_n 0, 1) := by decide +kernel
theorem d28_1 : decode jdk_57_method_2_code 1 = .ok (.aload_n 1, 1) := by decide +kernel
theorem d28_2 : decode jdk_57_method_2_code 2 = .ok (.invokespecial 7, 3) := by decide +kernel
theorem d28_5 : decode jdk_57_method_2_code 5 = .ok (.return_, 1) := by decide +kernel
theorem pn_36750192 : plainFor (⟨"java/lang/IllegalArgumentException", "<init>", "(Ljava/lang/String;)V"⟩ : MethodName) = true := by first | exact plainFor_of_name (by first | (simp [plainName, overriddenIn]; done) | decide +kernel) | decide +kernel
set_option maxRecDepth 65536 in
set_option maxHeartbeats 4000000 in
theorem ct_iae (G : Own.Gx) (hw : ∀ d ∈ tables_1, d.before G.a0 G.Z = true) (hnw : G.nw = false) (hst : G.l.stackTraces = true) (hMK : G.Z.vm.MethodsKnown) (hFK : G.Z.vm.FramesKnown G.Z.frames) (vU vN : Value) (hU : Sta G.Z G.Z.heap "java/lang/Throwable" "UNASSIGNED_STACK" "[Ljava/lang/StackTraceElement;" vU) (rU : vU.isRef = true) (nU : vU ≠ .null) (hN : Sta G.Z G.Z.heap "java/lang/Throwable" "SUPPRESSED_SENTINEL" "Ljava/util/List;" vN) (rN : vN.isRef = true) {As : List Own.Ent} {Li : List Own.LitE} (p s : Addr) :
    Own.Ct G [] (⟨"java/lang/IllegalArgumentException", "<init>", "(Ljava/lang/String;)V"⟩ : MethodName) jdk_57_method_2_code 2 none ({ frames := 5, cells := 1, slots := 2752, locals := 68 } : Room) [.ref p, .ref s] ((p, true, Own.obj "java/lang/IllegalArgumentException" F_java_lang_IllegalArgumentException [.null, .null, .null, .null, .null, .int 0]) :: As) Li (fun v A L => v = none ∧ A = (p, true, Own.obj "java/lang/IllegalArgumentException" own_ia_F [.ref s, .ref p]) :: As ∧ Li = L) := by
  refine Own.Ct.intro pn_36750192 (Ls := [.val (.ref p), .val (.ref s)]) rfl rfl ?_
  intro K
  refine Own.W.aloadN (pc := 0) d28_0 rfl rfl ?_
  refine Own.W.aloadN (pc := 1) d28_1 rfl rfl ?_
  refine Own.W.callI (pc := 2) (ct_rte G hw hnw hst hMK hFK vU vN hU rU nU hN rN p s) d28_2 rfl (hw _ (List.mem_of_getElem? (i := 153) rfl)) (hw _ (List.mem_of_getElem? (i := 154) rfl)) (hw _ (List.mem_of_getElem? (i := 157) rfl)) (hw _ (List.mem_of_getElem? (i := 158) rfl)) (by decide) pd_62450860 rfl rfl (Nat.le_of_ble_eq_true rfl) (Nat.le_of_ble_eq_true rfl) (Nat.le_of_ble_eq_true rfl) (Nat.le_of_ble_eq_true rfl) ?_
  rintro _ _ _ ⟨rfl, rfl, rfl⟩
  refine Own.W.vret (pc := 5) d28_5 rfl ?_ (Nat.le_of_ble_eq_true rfl) (Nat.le_of_ble_eq_true rfl)
  exact ⟨rfl, rfl, rfl⟩
theorem d33_0 : decode jdk_78_method_6_code 0 = .ok (.aload_n 0, 1) := by decide +kernel
theorem d33_1 : decode jdk_78_method_6_code 1 = .ok (.getfield 31, 3) := by decide +kernel
theorem d33_4 : decode jdk_78_method_6_code 4 = .ok (.areturn, 1) := by decide +kernel
theorem pn_44634285 : plainFor (⟨"java/lang/Throwable", "getMessage", "()Ljava/lang/String;"⟩ : MethodName) = true := by first | exact plainFor_of_name (by first | (simp [plainName, overriddenIn]; done) | decide +kernel) | decide +kernel
set_option maxRecDepth 65536 in
set_option maxHeartbeats 4000000 in
theorem ct_gms (G : Own.Gx) (hw : ∀ d ∈ tables_1, d.before G.a0 G.Z = true) {As : List Own.Ent} {Li : List Own.LitE} {w : Bool} (p m : Addr) (hp : (p, w, Own.obj "java/lang/IllegalArgumentException" own_ia_F [.ref m, .ref p]) ∈ As) :
    Own.Ct G [] (⟨"java/lang/Throwable", "getMessage", "()Ljava/lang/String;"⟩ : MethodName) jdk_78_method_6_code 1 (some (.object "java/lang/String")) ({ frames := 0, cells := 0, slots := 0, locals := 0 } : Room) [.ref p] As Li (fun v A L => v = some (.ref m) ∧ As = A ∧ Li = L) := by
  refine Own.Ct.intro pn_44634285 (Ls := [.val (.ref p)]) rfl rfl ?_
  intro K
  refine Own.W.aloadN (pc := 0) d33_0 rfl rfl ?_
  refine Own.W.getF (pc := 1) (host := "") (Or.inl (hw _ (List.mem_of_getElem? (i := 207) rfl))) (Via.refl (O := "java/lang/Throwable")) d33_1 hp (by repeat (first | exact Own.FAt.head | apply Own.FAt.tail)) ?_
  refine Own.W.aret (pc := 4) d33_4 rfl rfl rfl ?_ (Nat.le_of_ble_eq_true rfl) (Nat.le_of_ble_eq_true rfl)
  exact ⟨rfl, rfl, rfl⟩
def own_P : List Int32 := [110, 111, 32, 115, 117, 99, 104, 32, 112, 104, 97, 115, 101, 58, 32]
def own_N : List Int32 := [110, 117, 108, 108]
theorem own_N_by : own_by own_N = [110, 117, 108, 108] := by decide
theorem own_P_len : own_P.length = 15 := rfl
theorem own_P_lat : own_lat own_P := by decide
theorem own_P_by : own_by own_P = Own.txb "no such phase: " := by decide +kernel
theorem own_P_and : ([] ++ Own.txb "no such phase: ").map (· &&& 255) = own_P := by decide +kernel
def own_cs (n a b c : Int32) : List Int32 := if n = 0 then [] else if n = 1 then [a] else if n = 2 then [a, b] else [a, b, c]
theorem own_cs_len (n a b c : Int32) : (own_cs n a b c).length ≤ 3 := by unfold own_cs; split; simp; split; simp; split <;> simp
theorem own_ofF {A : List Own.Ent} {a : Addr} {cs bs : List Int32} (hl : own_lat cs) (e : own_by cs = bs) (q : Own.StrF A a (bs.map Value.int)) : StrT A a cs := by
  unfold StrT; rw [own_enc_l hl, own_cod_l hl, e]; exact q
theorem own_ofW {A : List Own.Ent} {a : Addr} {cs bs : List Int32} (hl : ¬ own_lat cs) (e : Own.u16 cs = bs) (q : Own.StrK A a (bs.map Value.int) 1) : StrT A a cs := by
  unfold StrT; rw [own_enc_n hl, own_cod_n hl, e]; exact q
theorem own_lat_app {xs ys : List Int32} (h : own_lat xs) : own_lat (xs ++ ys) ↔ own_lat ys := ⟨fun q z hz => q z (List.mem_append_right _ hz), fun q z hz => (List.mem_append.mp hz).elim (h z) (q z)⟩
theorem own_by_app (xs ys : List Int32) : own_by (xs ++ ys) = own_by xs ++ own_by ys := List.map_append
theorem own_frzJ {e : Own.Ent} {J As : List Own.Ent} {a : Addr} {sc : Own.SC} : Own.Frz (e :: (J ++ (a, true, sc) :: As)) a sc (e :: (J ++ (a, false, sc) :: As)) := ⟨e :: J, As, rfl, rfl⟩
theorem own_subJ {e x : Own.Ent} {J As : List Own.Ent} : Own.Sub As (e :: (J ++ x :: As)) := fun y hy => List.Mem.tail _ (List.mem_append_right _ (List.Mem.tail _ hy))
theorem own_memJ {e x : Own.Ent} {J As : List Own.Ent} : x ∈ (e :: (J ++ x :: As)) := List.Mem.tail _ (List.mem_append_right _ (List.Mem.head _))
theorem own_front {A p1 p2 : List Own.Ent} {x : Own.Ent} (h : A = p1 ++ x :: p2) (hx : x.2.1 = true) : Own.Stay A (p1 ++ p2) := fun e he hw => by
  rw [h] at he
  rcases List.mem_append.mp he with r | r
  · exact List.mem_append_left _ r
  · rcases List.mem_cons.mp r with rfl | r
    · rw [hx] at hw; cases hw
    · exact List.mem_append_right _ r
theorem own_h3 {a b c : Int32} (ha : a &&& 65535 = a) (hb : b &&& 65535 = b) (hc : c &&& 65535 = c) : ∀ z ∈ [a, b, c], z &&& 65535 = z := fun z hz => by
  simp only [List.mem_cons, List.not_mem_nil, or_false] at hz
  rcases hz with rfl | rfl | rfl <;> assumption
theorem own_hP {cs : List Int32} (h : ∀ z ∈ cs, z &&& 65535 = z) : ∀ z ∈ own_P ++ cs, z &&& 65535 = z := fun z hz => by
  rcases List.mem_append.mp hz with q | q
  · exact (by decide : ∀ z ∈ own_P, z &&& 65535 = z) z q
  · exact h z q
theorem d1_0 : decode method_3_code 0 = .ok (.iload_n 0, 1) := by decide +kernel
theorem d1_1 : decode method_3_code 1 = .ok (.ifCond .ne 14, 3) := by decide +kernel
theorem d1_15 : decode method_3_code 15 = .ok (.iload_n 0, 1) := by decide +kernel
theorem d1_16 : decode method_3_code 16 = .ok (.iconst 1, 1) := by decide +kernel
theorem d1_17 : decode method_3_code 17 = .ok (.if_icmp .ne 18, 3) := by decide +kernel
theorem d1_35 : decode method_3_code 35 = .ok (.iload_n 0, 1) := by decide +kernel
theorem d1_36 : decode method_3_code 36 = .ok (.iconst 2, 1) := by decide +kernel
theorem d1_37 : decode method_3_code 37 = .ok (.if_icmp .ne 22, 3) := by decide +kernel
theorem d1_59 : decode method_3_code 59 = .ok (.new 32, 3) := by decide +kernel
theorem d1_62 : decode method_3_code 62 = .ok (.dup, 1) := by decide +kernel
theorem d1_63 : decode method_3_code 63 = .ok (.iconst 3, 1) := by decide +kernel
theorem d1_64 : decode method_3_code 64 = .ok (.newarray .char, 2) := by decide +kernel
theorem d1_66 : decode method_3_code 66 = .ok (.dup, 1) := by decide +kernel
theorem d1_67 : decode method_3_code 67 = .ok (.iconst 0, 1) := by decide +kernel
theorem d1_68 : decode method_3_code 68 = .ok (.iload_n 1, 1) := by decide +kernel
theorem d1_69 : decode method_3_code 69 = .ok (.castore, 1) := by decide +kernel
theorem d1_70 : decode method_3_code 70 = .ok (.dup, 1) := by decide +kernel
theorem d1_71 : decode method_3_code 71 = .ok (.iconst 1, 1) := by decide +kernel
theorem d1_72 : decode method_3_code 72 = .ok (.iload_n 2, 1) := by decide +kernel
theorem d1_73 : decode method_3_code 73 = .ok (.castore, 1) := by decide +kernel
theorem d1_74 : decode method_3_code 74 = .ok (.dup, 1) := by decide +kernel
theorem d1_75 : decode method_3_code 75 = .ok (.iconst 2, 1) := by decide +kernel
theorem d1_76 : decode method_3_code 76 = .ok (.iload_n 3, 1) := by decide +kernel
theorem d1_77 : decode method_3_code 77 = .ok (.castore, 1) := by decide +kernel
theorem d1_78 : decode method_3_code 78 = .ok (.invokespecial 41, 3) := by decide +kernel
theorem pd_84933738 : parseMethodDescriptor "([C)V" = some ⟨[(.array .char)], none⟩ := by decide +kernel
theorem d1_81 : decode method_3_code 81 = .ok (.areturn, 1) := by decide +kernel
theorem d1_40 : decode method_3_code 40 = .ok (.new 32, 3) := by decide +kernel
theorem d1_43 : decode method_3_code 43 = .ok (.dup, 1) := by decide +kernel
theorem d1_44 : decode method_3_code 44 = .ok (.iconst 2, 1) := by decide +kernel
theorem d1_45 : decode method_3_code 45 = .ok (.newarray .char, 2) := by decide +kernel
theorem d1_47 : decode method_3_code 47 = .ok (.dup, 1) := by decide +kernel
theorem d1_48 : decode method_3_code 48 = .ok (.iconst 0, 1) := by decide +kernel
theorem d1_49 : decode method_3_code 49 = .ok (.iload_n 1, 1) := by decide +kernel
theorem d1_50 : decode method_3_code 50 = .ok (.castore, 1) := by decide +kernel
theorem d1_51 : decode method_3_code 51 = .ok (.dup, 1) := by decide +kernel
theorem d1_52 : decode method_3_code 52 = .ok (.iconst 1, 1) := by decide +kernel
theorem d1_53 : decode method_3_code 53 = .ok (.iload_n 2, 1) := by decide +kernel
theorem d1_54 : decode method_3_code 54 = .ok (.castore, 1) := by decide +kernel
theorem d1_55 : decode method_3_code 55 = .ok (.invokespecial 41, 3) := by decide +kernel
theorem d1_58 : decode method_3_code 58 = .ok (.areturn, 1) := by decide +kernel
theorem d1_20 : decode method_3_code 20 = .ok (.new 32, 3) := by decide +kernel
theorem d1_23 : decode method_3_code 23 = .ok (.dup, 1) := by decide +kernel
theorem d1_24 : decode method_3_code 24 = .ok (.iconst 1, 1) := by decide +kernel
theorem d1_25 : decode method_3_code 25 = .ok (.newarray .char, 2) := by decide +kernel
theorem d1_27 : decode method_3_code 27 = .ok (.dup, 1) := by decide +kernel
theorem d1_28 : decode method_3_code 28 = .ok (.iconst 0, 1) := by decide +kernel
theorem d1_29 : decode method_3_code 29 = .ok (.iload_n 1, 1) := by decide +kernel
theorem d1_30 : decode method_3_code 30 = .ok (.castore, 1) := by decide +kernel
theorem d1_31 : decode method_3_code 31 = .ok (.invokespecial 41, 3) := by decide +kernel
theorem d1_34 : decode method_3_code 34 = .ok (.areturn, 1) := by decide +kernel
theorem d1_4 : decode method_3_code 4 = .ok (.new 32, 3) := by decide +kernel
theorem d1_7 : decode method_3_code 7 = .ok (.dup, 1) := by decide +kernel
theorem d1_8 : decode method_3_code 8 = .ok (.iconst 0, 1) := by decide +kernel
theorem d1_9 : decode method_3_code 9 = .ok (.newarray .char, 2) := by decide +kernel
theorem d1_11 : decode method_3_code 11 = .ok (.invokespecial 41, 3) := by decide +kernel
theorem d1_14 : decode method_3_code 14 = .ok (.areturn, 1) := by decide +kernel
theorem pn_11409092 : plainFor (⟨"com/example/vanth/vanth/PhaseGraphNoSuchPhasePinLaw", "drawn", "(ICCC)Ljava/lang/String;"⟩ : MethodName) = true := by first | exact plainFor_of_name (by first | (simp [plainName, overriddenIn]; done) | decide +kernel) | decide +kernel
set_option maxRecDepth 65536 in
set_option maxHeartbeats 4000000 in
theorem ct_drw (G : Own.Gx) (hw : ∀ d ∈ tables_1, d.before G.a0 G.Z = true) (hC : Own.CSt G) (hV : U16s G) (hnw : G.nw = false) (wS : ∀ a ∈ Bundle.stringAtoms, a.before G.a0 G.Z = true) (hcw : Jvm.Lit.compactW.before G.a0 G.Z = true) (hhs7 : Jvm.Lit.constHeld G.Z "java/lang/String" 7) {As : List Own.Ent} {Li : List Own.LitE} (n a b c : Int32) (ha : a &&& 65535 = a) (hb : b &&& 65535 = b) (hc : c &&& 65535 = c) (hA : Own.LA As Li) :
    Own.Ct G [] (⟨"com/example/vanth/vanth/PhaseGraphNoSuchPhasePinLaw", "drawn", "(ICCC)Ljava/lang/String;"⟩ : MethodName) method_3_code 4 (some (.object "java/lang/String")) ({ frames := 6, cells := 5, slots := 20, locals := 88 } : Room) [.int n, .int a, .int b, .int c] As Li (fun v A L => ∃ o, v = some (.ref o) ∧ StrT A o (own_cs n a b c) ∧ Own.Sub As A ∧ Own.LA A L) := by
  refine Own.Ct.intro pn_11409092 (Ls := [.val (.int n), .val (.int a), .val (.int b), .val (.int c)]) rfl rfl ?_
  intro K
  refine Own.W.iloadN (pc := 0) d1_0 rfl ?_
  refine Own.W.if_ne (pc := 1) 15 d1_1 (by decide) (by decide) ?_ ?_
  · intro h1
    refine Own.W.iloadN (pc := 15) d1_15 rfl ?_
    refine Own.W.iconst (pc := 16) (z := (1 : Int32)) d1_16 (by decide) ?_
    refine Own.W.ic_ne (pc := 17) 35 d1_17 (by decide) (by decide) ?_ ?_
    · intro h17
      refine Own.W.iloadN (pc := 35) d1_35 rfl ?_
      refine Own.W.iconst (pc := 36) (z := (2 : Int32)) d1_36 (by decide) ?_
      refine Own.W.ic_ne (pc := 37) 59 d1_37 (by decide) (by decide) ?_ ?_
      · intro h37
        refine Own.W.new (pc := 59) (hw _ (List.mem_of_getElem? (i := 5) rfl)) (hw _ (List.mem_of_getElem? (i := 6) rfl)) (hw _ (List.mem_of_getElem? (i := 7) rfl)) d1_59 (LF_java_lang_String G hw) (vs := [.null, .int 0]) (by decide) (Nat.le_of_ble_eq_true rfl) (Nat.le_of_ble_eq_true rfl) ?_
        intro o59
        refine Own.W.dup (pc := 62) d1_62 rfl ?_
        refine Own.W.iconst (pc := 63) (z := (3 : Int32)) d1_63 (by decide) ?_
        refine Own.W.newP (pc := 64) 3 (hw _ (List.mem_of_getElem? (i := 8) rfl)) d1_64 rfl (by decide) (Nat.le_of_ble_eq_true rfl) (by decide) (vs := [.int 0, .int 0, .int 0]) rfl (Nat.le_of_ble_eq_true rfl) (Nat.le_of_ble_eq_true rfl) ?_
        intro o64
        refine Own.W.dup (pc := 66) d1_66 rfl ?_
        refine Own.W.iconst (pc := 67) (z := (0 : Int32)) d1_67 (by decide) ?_
        refine Own.W.iloadN (pc := 68) d1_68 rfl ?_
        refine Own.W.castore (pc := 69) d1_69 (by decide) (i := 0) (by decide) (by simp) (u := .int a) (congrArg Value.int (Own.nar16 ha)) (vs' := [.int a, .int 0, .int 0]) rfl Own.Upd.head ?_
        refine Own.W.dup (pc := 70) d1_70 rfl ?_
        refine Own.W.iconst (pc := 71) (z := (1 : Int32)) d1_71 (by decide) ?_
        refine Own.W.iloadN (pc := 72) d1_72 rfl ?_
        refine Own.W.castore (pc := 73) d1_73 (by decide) (i := 1) (by decide) (by simp) (u := .int b) (congrArg Value.int (Own.nar16 hb)) (vs' := [.int a, .int b, .int 0]) rfl Own.Upd.head ?_
        refine Own.W.dup (pc := 74) d1_74 rfl ?_
        refine Own.W.iconst (pc := 75) (z := (2 : Int32)) d1_75 (by decide) ?_
        refine Own.W.iloadN (pc := 76) d1_76 rfl ?_
        refine Own.W.castore (pc := 77) d1_77 (by decide) (i := 2) (by decide) (by simp) (u := .int c) (congrArg Value.int (Own.nar16 hc)) (vs' := [.int a, .int b, .int c]) rfl Own.Upd.head ?_
        refine Own.W.perm ?_ (List.Perm.swap _ _ _)
        refine Own.W.callI (pc := 78) (ct_strT G hw hC hV o59 o64 [a, b, c] 3 (by simp) (by simp) (by decide) (own_h3 ha hb hc) (Own.AVin.mem (List.Mem.head _))) d1_78 rfl (hw _ (List.mem_of_getElem? (i := 9) rfl)) (hw _ (List.mem_of_getElem? (i := 10) rfl)) (hw _ (List.mem_of_getElem? (i := 7) rfl)) (hw _ (List.mem_of_getElem? (i := 11) rfl)) (by decide) pd_84933738 rfl rfl (Nat.le_of_ble_eq_true rfl) (Nat.le_of_ble_eq_true rfl) (Nat.le_of_ble_eq_true rfl) (by first | exact Nat.le_of_ble_eq_true rfl | (simp; done) | (simp; omega)) ?_
        rintro _ _ _ ⟨b_, J, rfl, rfl, rfl⟩
        refine Own.W.frz Own.Frz.head ?_
        refine Own.W.frz own_frzJ ?_
        refine Own.W.aret (pc := 81) d1_81 rfl rfl rfl ?_ (Nat.le_of_ble_eq_true rfl) (Nat.le_of_ble_eq_true rfl)
        exact ⟨_, rfl, by rw [show own_cs n a b c = [a, b, c] from by unfold own_cs; rw [if_neg h1, if_neg h17, if_neg h37]]; exact ⟨b_, _, _, own_memJ, (by repeat (first | exact Own.FAt.head | apply Own.FAt.tail)), (by repeat (first | exact Own.FAt.head | apply Own.FAt.tail)), List.Mem.head _⟩, fun e he => own_subJ e (List.Mem.tail _ he), hA.sub fun e he => own_subJ e (List.Mem.tail _ he)⟩
      · intro h37
        refine Own.W.new (pc := 40) (hw _ (List.mem_of_getElem? (i := 5) rfl)) (hw _ (List.mem_of_getElem? (i := 6) rfl)) (hw _ (List.mem_of_getElem? (i := 7) rfl)) d1_40 (LF_java_lang_String G hw) (vs := [.null, .int 0]) (by decide) (Nat.le_of_ble_eq_true rfl) (Nat.le_of_ble_eq_true rfl) ?_
        intro o40
        refine Own.W.dup (pc := 43) d1_43 rfl ?_
        refine Own.W.iconst (pc := 44) (z := (2 : Int32)) d1_44 (by decide) ?_
        refine Own.W.newP (pc := 45) 2 (hw _ (List.mem_of_getElem? (i := 8) rfl)) d1_45 rfl (by decide) (Nat.le_of_ble_eq_true rfl) (by decide) (vs := [.int 0, .int 0]) rfl (Nat.le_of_ble_eq_true rfl) (Nat.le_of_ble_eq_true rfl) ?_
        intro o45
        refine Own.W.dup (pc := 47) d1_47 rfl ?_
        refine Own.W.iconst (pc := 48) (z := (0 : Int32)) d1_48 (by decide) ?_
        refine Own.W.iloadN (pc := 49) d1_49 rfl ?_
        refine Own.W.castore (pc := 50) d1_50 (by decide) (i := 0) (by decide) (by simp) (u := .int a) (congrArg Value.int (Own.nar16 ha)) (vs' := [.int a, .int 0]) rfl Own.Upd.head ?_
        refine Own.W.dup (pc := 51) d1_51 rfl ?_
        refine Own.W.iconst (pc := 52) (z := (1 : Int32)) d1_52 (by decide) ?_
        refine Own.W.iloadN (pc := 53) d1_53 rfl ?_
        refine Own.W.castore (pc := 54) d1_54 (by decide) (i := 1) (by decide) (by simp) (u := .int b) (congrArg Value.int (Own.nar16 hb)) (vs' := [.int a, .int b]) rfl Own.Upd.head ?_
        refine Own.W.perm ?_ (List.Perm.swap _ _ _)
        refine Own.W.callI (pc := 55) (ct_strT G hw hC hV o40 o45 [a, b] 2 (by simp) (by simp) (by decide) (fun z hz => own_h3 ha hb hb z (by rcases List.mem_cons.mp hz with rfl | hz; exact List.Mem.head _; exact List.Mem.tail _ (by cases List.mem_singleton.mp hz; exact List.Mem.head _))) (Own.AVin.mem (List.Mem.head _))) d1_55 rfl (hw _ (List.mem_of_getElem? (i := 9) rfl)) (hw _ (List.mem_of_getElem? (i := 10) rfl)) (hw _ (List.mem_of_getElem? (i := 7) rfl)) (hw _ (List.mem_of_getElem? (i := 11) rfl)) (by decide) pd_84933738 rfl rfl (Nat.le_of_ble_eq_true rfl) (Nat.le_of_ble_eq_true rfl) (Nat.le_of_ble_eq_true rfl) (by first | exact Nat.le_of_ble_eq_true rfl | (simp; done) | (simp; omega)) ?_
        rintro _ _ _ ⟨b_, J, rfl, rfl, rfl⟩
        refine Own.W.frz Own.Frz.head ?_
        refine Own.W.frz own_frzJ ?_
        refine Own.W.aret (pc := 58) d1_58 rfl rfl rfl ?_ (Nat.le_of_ble_eq_true rfl) (Nat.le_of_ble_eq_true rfl)
        exact ⟨_, rfl, by rw [show own_cs n a b c = [a, b] from by unfold own_cs; rw [if_neg h1, if_neg h17, if_pos h37]]; exact ⟨b_, _, _, own_memJ, (by repeat (first | exact Own.FAt.head | apply Own.FAt.tail)), (by repeat (first | exact Own.FAt.head | apply Own.FAt.tail)), List.Mem.head _⟩, fun e he => own_subJ e (List.Mem.tail _ he), hA.sub fun e he => own_subJ e (List.Mem.tail _ he)⟩
    · intro h17
      refine Own.W.new (pc := 20) (hw _ (List.mem_of_getElem? (i := 5) rfl)) (hw _ (List.mem_of_getElem? (i := 6) rfl)) (hw _ (List.mem_of_getElem? (i := 7) rfl)) d1_20 (LF_java_lang_String G hw) (vs := [.null, .int 0]) (by decide) (Nat.le_of_ble_eq_true rfl) (Nat.le_of_ble_eq_true rfl) ?_
      intro o20
      refine Own.W.dup (pc := 23) d1_23 rfl ?_
      refine Own.W.iconst (pc := 24) (z := (1 : Int32)) d1_24 (by decide) ?_
      refine Own.W.newP (pc := 25) 1 (hw _ (List.mem_of_getElem? (i := 8) rfl)) d1_25 rfl (by decide) (Nat.le_of_ble_eq_true rfl) (by decide) (vs := [.int 0]) rfl (Nat.le_of_ble_eq_true rfl) (Nat.le_of_ble_eq_true rfl) ?_
      intro o25
      refine Own.W.dup (pc := 27) d1_27 rfl ?_
      refine Own.W.iconst (pc := 28) (z := (0 : Int32)) d1_28 (by decide) ?_
      refine Own.W.iloadN (pc := 29) d1_29 rfl ?_
      refine Own.W.castore (pc := 30) d1_30 (by decide) (i := 0) (by decide) (by simp) (u := .int a) (congrArg Value.int (Own.nar16 ha)) (vs' := [.int a]) rfl Own.Upd.head ?_
      refine Own.W.perm ?_ (List.Perm.swap _ _ _)
      refine Own.W.callI (pc := 31) (ct_strT G hw hC hV o20 o25 [a] 1 (by simp) (by simp) (by decide) (fun z hz => own_h3 ha hb hb z (by cases List.mem_singleton.mp hz; exact List.Mem.head _)) (Own.AVin.mem (List.Mem.head _))) d1_31 rfl (hw _ (List.mem_of_getElem? (i := 9) rfl)) (hw _ (List.mem_of_getElem? (i := 10) rfl)) (hw _ (List.mem_of_getElem? (i := 7) rfl)) (hw _ (List.mem_of_getElem? (i := 11) rfl)) (by decide) pd_84933738 rfl rfl (Nat.le_of_ble_eq_true rfl) (Nat.le_of_ble_eq_true rfl) (Nat.le_of_ble_eq_true rfl) (by first | exact Nat.le_of_ble_eq_true rfl | (simp; done) | (simp; omega)) ?_
      rintro _ _ _ ⟨b_, J, rfl, rfl, rfl⟩
      refine Own.W.frz Own.Frz.head ?_
      refine Own.W.frz own_frzJ ?_
      refine Own.W.aret (pc := 34) d1_34 rfl rfl rfl ?_ (Nat.le_of_ble_eq_true rfl) (Nat.le_of_ble_eq_true rfl)
      exact ⟨_, rfl, by rw [show own_cs n a b c = [a] from by unfold own_cs; rw [if_neg h1, if_pos h17]]; exact ⟨b_, _, _, own_memJ, (by repeat (first | exact Own.FAt.head | apply Own.FAt.tail)), (by repeat (first | exact Own.FAt.head | apply Own.FAt.tail)), List.Mem.head _⟩, fun e he => own_subJ e (List.Mem.tail _ he), hA.sub fun e he => own_subJ e (List.Mem.tail _ he)⟩
  · intro h1
    refine Own.W.new (pc := 4) (hw _ (List.mem_of_getElem? (i := 5) rfl)) (hw _ (List.mem_of_getElem? (i := 6) rfl)) (hw _ (List.mem_of_getElem? (i := 7) rfl)) d1_4 (LF_java_lang_String G hw) (vs := [.null, .int 0]) (by decide) (Nat.le_of_ble_eq_true rfl) (Nat.le_of_ble_eq_true rfl) ?_
    intro o4
    refine Own.W.dup (pc := 7) d1_7 rfl ?_
    refine Own.W.iconst (pc := 8) (z := (0 : Int32)) d1_8 (by decide) ?_
    refine Own.W.newP (pc := 9) 0 (hw _ (List.mem_of_getElem? (i := 8) rfl)) d1_9 rfl (by decide) (Nat.le_of_ble_eq_true rfl) (by decide) (vs := []) rfl (Nat.le_of_ble_eq_true rfl) (Nat.le_of_ble_eq_true rfl) ?_
    intro o9
    refine Own.W.perm ?_ (List.Perm.swap _ _ _)
    refine Own.W.callI (pc := 11) (ct_strA G hw hnw wS hcw hhs7 o4 o9 hA.cons1 (Own.AVin.mem (List.Mem.head _))) d1_11 rfl (hw _ (List.mem_of_getElem? (i := 9) rfl)) (hw _ (List.mem_of_getElem? (i := 10) rfl)) (hw _ (List.mem_of_getElem? (i := 7) rfl)) (hw _ (List.mem_of_getElem? (i := 11) rfl)) (by decide) pd_84933738 rfl rfl (Nat.le_of_ble_eq_true rfl) (Nat.le_of_ble_eq_true rfl) (Nat.le_of_ble_eq_true rfl) (Nat.le_of_ble_eq_true rfl) ?_
    rintro _ _ L1 ⟨b_, A1, rfl, rfl, g1, g2, g3⟩
    refine Own.W.frz Own.Frz.head ?_
    refine Own.W.aret (pc := 14) d1_14 rfl rfl rfl ?_ (Nat.le_of_ble_eq_true rfl) (Nat.le_of_ble_eq_true rfl)
    exact ⟨_, rfl, by rw [show own_cs n a b c = [] from by unfold own_cs; rw [if_pos h1]]; exact ⟨b_, _, _, List.Mem.head _, (by repeat (first | exact Own.FAt.head | apply Own.FAt.tail)), (by repeat (first | exact Own.FAt.head | apply Own.FAt.tail)), List.Mem.tail _ g1⟩, fun e he => List.Mem.tail _ (g2 e (List.Mem.tail _ he)), g3.cons1⟩
theorem d5_0 : decode method_4_code 0 = .ok (.iload_n 0, 1) := by decide +kernel
theorem d5_1 : decode method_4_code 1 = .ok (.ifCond .ne 6, 3) := by decide +kernel
theorem d5_7 : decode method_4_code 7 = .ok (.iload_n 0, 1) := by decide +kernel
theorem d5_8 : decode method_4_code 8 = .ok (.iconst 1, 1) := by decide +kernel
theorem d5_9 : decode method_4_code 9 = .ok (.if_icmp .ne 104, 3) := by decide +kernel
theorem d5_113 : decode method_4_code 113 = .ok (.iload_n 0, 1) := by decide +kernel
theorem d5_114 : decode method_4_code 114 = .ok (.iconst 2, 1) := by decide +kernel
theorem d5_115 : decode method_4_code 115 = .ok (.if_icmp .ne 109, 3) := by decide +kernel
theorem d5_224 : decode method_4_code 224 = .ok (.new 32, 3) := by decide +kernel
theorem d5_227 : decode method_4_code 227 = .ok (.dup, 1) := by decide +kernel
theorem d5_228 : decode method_4_code 228 = .ok (.bipush 18, 2) := by decide +kernel
theorem d5_230 : decode method_4_code 230 = .ok (.newarray .char, 2) := by decide +kernel
theorem d5_232 : decode method_4_code 232 = .ok (.dup, 1) := by decide +kernel
theorem d5_233 : decode method_4_code 233 = .ok (.iconst 0, 1) := by decide +kernel
theorem d5_234 : decode method_4_code 234 = .ok (.bipush 110, 2) := by decide +kernel
theorem d5_236 : decode method_4_code 236 = .ok (.castore, 1) := by decide +kernel
theorem d5_237 : decode method_4_code 237 = .ok (.dup, 1) := by decide +kernel
theorem d5_238 : decode method_4_code 238 = .ok (.iconst 1, 1) := by decide +kernel
theorem d5_239 : decode method_4_code 239 = .ok (.bipush 111, 2) := by decide +kernel
theorem d5_241 : decode method_4_code 241 = .ok (.castore, 1) := by decide +kernel
theorem d5_242 : decode method_4_code 242 = .ok (.dup, 1) := by decide +kernel
theorem d5_243 : decode method_4_code 243 = .ok (.iconst 2, 1) := by decide +kernel
theorem d5_244 : decode method_4_code 244 = .ok (.bipush 32, 2) := by decide +kernel
theorem d5_246 : decode method_4_code 246 = .ok (.castore, 1) := by decide +kernel
theorem d5_247 : decode method_4_code 247 = .ok (.dup, 1) := by decide +kernel
theorem d5_248 : decode method_4_code 248 = .ok (.iconst 3, 1) := by decide +kernel
theorem d5_249 : decode method_4_code 249 = .ok (.bipush 115, 2) := by decide +kernel
theorem d5_251 : decode method_4_code 251 = .ok (.castore, 1) := by decide +kernel
theorem d5_252 : decode method_4_code 252 = .ok (.dup, 1) := by decide +kernel
theorem d5_253 : decode method_4_code 253 = .ok (.iconst 4, 1) := by decide +kernel
theorem d5_254 : decode method_4_code 254 = .ok (.bipush 117, 2) := by decide +kernel
theorem d5_256 : decode method_4_code 256 = .ok (.castore, 1) := by decide +kernel
theorem d5_257 : decode method_4_code 257 = .ok (.dup, 1) := by decide +kernel
theorem d5_258 : decode method_4_code 258 = .ok (.iconst 5, 1) := by decide +kernel
theorem d5_259 : decode method_4_code 259 = .ok (.bipush 99, 2) := by decide +kernel
theorem d5_261 : decode method_4_code 261 = .ok (.castore, 1) := by decide +kernel
theorem d5_262 : decode method_4_code 262 = .ok (.dup, 1) := by decide +kernel
theorem d5_263 : decode method_4_code 263 = .ok (.bipush 6, 2) := by decide +kernel
theorem d5_265 : decode method_4_code 265 = .ok (.bipush 104, 2) := by decide +kernel
theorem d5_267 : decode method_4_code 267 = .ok (.castore, 1) := by decide +kernel
theorem d5_268 : decode method_4_code 268 = .ok (.dup, 1) := by decide +kernel
theorem d5_269 : decode method_4_code 269 = .ok (.bipush 7, 2) := by decide +kernel
theorem d5_271 : decode method_4_code 271 = .ok (.bipush 32, 2) := by decide +kernel
theorem d5_273 : decode method_4_code 273 = .ok (.castore, 1) := by decide +kernel
theorem d5_274 : decode method_4_code 274 = .ok (.dup, 1) := by decide +kernel
theorem d5_275 : decode method_4_code 275 = .ok (.bipush 8, 2) := by decide +kernel
theorem d5_277 : decode method_4_code 277 = .ok (.bipush 112, 2) := by decide +kernel
theorem d5_279 : decode method_4_code 279 = .ok (.castore, 1) := by decide +kernel
theorem d5_280 : decode method_4_code 280 = .ok (.dup, 1) := by decide +kernel
theorem d5_281 : decode method_4_code 281 = .ok (.bipush 9, 2) := by decide +kernel
theorem d5_283 : decode method_4_code 283 = .ok (.bipush 104, 2) := by decide +kernel
theorem d5_285 : decode method_4_code 285 = .ok (.castore, 1) := by decide +kernel
theorem d5_286 : decode method_4_code 286 = .ok (.dup, 1) := by decide +kernel
theorem d5_287 : decode method_4_code 287 = .ok (.bipush 10, 2) := by decide +kernel
theorem d5_289 : decode method_4_code 289 = .ok (.bipush 97, 2) := by decide +kernel
theorem d5_291 : decode method_4_code 291 = .ok (.castore, 1) := by decide +kernel
theorem d5_292 : decode method_4_code 292 = .ok (.dup, 1) := by decide +kernel
theorem d5_293 : decode method_4_code 293 = .ok (.bipush 11, 2) := by decide +kernel
theorem d5_295 : decode method_4_code 295 = .ok (.bipush 115, 2) := by decide +kernel
theorem d5_297 : decode method_4_code 297 = .ok (.castore, 1) := by decide +kernel
theorem d5_298 : decode method_4_code 298 = .ok (.dup, 1) := by decide +kernel
theorem d5_299 : decode method_4_code 299 = .ok (.bipush 12, 2) := by decide +kernel
theorem d5_301 : decode method_4_code 301 = .ok (.bipush 101, 2) := by decide +kernel
theorem d5_303 : decode method_4_code 303 = .ok (.castore, 1) := by decide +kernel
theorem d5_304 : decode method_4_code 304 = .ok (.dup, 1) := by decide +kernel
theorem d5_305 : decode method_4_code 305 = .ok (.bipush 13, 2) := by decide +kernel
theorem d5_307 : decode method_4_code 307 = .ok (.bipush 58, 2) := by decide +kernel
theorem d5_309 : decode method_4_code 309 = .ok (.castore, 1) := by decide +kernel
theorem d5_310 : decode method_4_code 310 = .ok (.dup, 1) := by decide +kernel
theorem d5_311 : decode method_4_code 311 = .ok (.bipush 14, 2) := by decide +kernel
theorem d5_313 : decode method_4_code 313 = .ok (.bipush 32, 2) := by decide +kernel
theorem d5_315 : decode method_4_code 315 = .ok (.castore, 1) := by decide +kernel
theorem d5_316 : decode method_4_code 316 = .ok (.dup, 1) := by decide +kernel
theorem d5_317 : decode method_4_code 317 = .ok (.bipush 15, 2) := by decide +kernel
theorem d5_319 : decode method_4_code 319 = .ok (.iload_n 1, 1) := by decide +kernel
theorem d5_320 : decode method_4_code 320 = .ok (.castore, 1) := by decide +kernel
theorem d5_321 : decode method_4_code 321 = .ok (.dup, 1) := by decide +kernel
theorem d5_322 : decode method_4_code 322 = .ok (.bipush 16, 2) := by decide +kernel
theorem d5_324 : decode method_4_code 324 = .ok (.iload_n 2, 1) := by decide +kernel
theorem d5_325 : decode method_4_code 325 = .ok (.castore, 1) := by decide +kernel
theorem d5_326 : decode method_4_code 326 = .ok (.dup, 1) := by decide +kernel
theorem d5_327 : decode method_4_code 327 = .ok (.bipush 17, 2) := by decide +kernel
theorem d5_329 : decode method_4_code 329 = .ok (.iload_n 3, 1) := by decide +kernel
theorem d5_330 : decode method_4_code 330 = .ok (.castore, 1) := by decide +kernel
theorem d5_331 : decode method_4_code 331 = .ok (.invokespecial 41, 3) := by decide +kernel
theorem d5_334 : decode method_4_code 334 = .ok (.areturn, 1) := by decide +kernel
theorem d5_118 : decode method_4_code 118 = .ok (.new 32, 3) := by decide +kernel
theorem d5_121 : decode method_4_code 121 = .ok (.dup, 1) := by decide +kernel
theorem d5_122 : decode method_4_code 122 = .ok (.bipush 17, 2) := by decide +kernel
theorem d5_124 : decode method_4_code 124 = .ok (.newarray .char, 2) := by decide +kernel
theorem d5_126 : decode method_4_code 126 = .ok (.dup, 1) := by decide +kernel
theorem d5_127 : decode method_4_code 127 = .ok (.iconst 0, 1) := by decide +kernel
theorem d5_128 : decode method_4_code 128 = .ok (.bipush 110, 2) := by decide +kernel
theorem d5_130 : decode method_4_code 130 = .ok (.castore, 1) := by decide +kernel
theorem d5_131 : decode method_4_code 131 = .ok (.dup, 1) := by decide +kernel
theorem d5_132 : decode method_4_code 132 = .ok (.iconst 1, 1) := by decide +kernel
theorem d5_133 : decode method_4_code 133 = .ok (.bipush 111, 2) := by decide +kernel
theorem d5_135 : decode method_4_code 135 = .ok (.castore, 1) := by decide +kernel
theorem d5_136 : decode method_4_code 136 = .ok (.dup, 1) := by decide +kernel
theorem d5_137 : decode method_4_code 137 = .ok (.iconst 2, 1) := by decide +kernel
theorem d5_138 : decode method_4_code 138 = .ok (.bipush 32, 2) := by decide +kernel
theorem d5_140 : decode method_4_code 140 = .ok (.castore, 1) := by decide +kernel
theorem d5_141 : decode method_4_code 141 = .ok (.dup, 1) := by decide +kernel
theorem d5_142 : decode method_4_code 142 = .ok (.iconst 3, 1) := by decide +kernel
theorem d5_143 : decode method_4_code 143 = .ok (.bipush 115, 2) := by decide +kernel
theorem d5_145 : decode method_4_code 145 = .ok (.castore, 1) := by decide +kernel
theorem d5_146 : decode method_4_code 146 = .ok (.dup, 1) := by decide +kernel
theorem d5_147 : decode method_4_code 147 = .ok (.iconst 4, 1) := by decide +kernel
theorem d5_148 : decode method_4_code 148 = .ok (.bipush 117, 2) := by decide +kernel
theorem d5_150 : decode method_4_code 150 = .ok (.castore, 1) := by decide +kernel
theorem d5_151 : decode method_4_code 151 = .ok (.dup, 1) := by decide +kernel
theorem d5_152 : decode method_4_code 152 = .ok (.iconst 5, 1) := by decide +kernel
theorem d5_153 : decode method_4_code 153 = .ok (.bipush 99, 2) := by decide +kernel
theorem d5_155 : decode method_4_code 155 = .ok (.castore, 1) := by decide +kernel
theorem d5_156 : decode method_4_code 156 = .ok (.dup, 1) := by decide +kernel
theorem d5_157 : decode method_4_code 157 = .ok (.bipush 6, 2) := by decide +kernel
theorem d5_159 : decode method_4_code 159 = .ok (.bipush 104, 2) := by decide +kernel
theorem d5_161 : decode method_4_code 161 = .ok (.castore, 1) := by decide +kernel
theorem d5_162 : decode method_4_code 162 = .ok (.dup, 1) := by decide +kernel
theorem d5_163 : decode method_4_code 163 = .ok (.bipush 7, 2) := by decide +kernel
theorem d5_165 : decode method_4_code 165 = .ok (.bipush 32, 2) := by decide +kernel
theorem d5_167 : decode method_4_code 167 = .ok (.castore, 1) := by decide +kernel
theorem d5_168 : decode method_4_code 168 = .ok (.dup, 1) := by decide +kernel
theorem d5_169 : decode method_4_code 169 = .ok (.bipush 8, 2) := by decide +kernel
theorem d5_171 : decode method_4_code 171 = .ok (.bipush 112, 2) := by decide +kernel
theorem d5_173 : decode method_4_code 173 = .ok (.castore, 1) := by decide +kernel
theorem d5_174 : decode method_4_code 174 = .ok (.dup, 1) := by decide +kernel
theorem d5_175 : decode method_4_code 175 = .ok (.bipush 9, 2) := by decide +kernel
theorem d5_177 : decode method_4_code 177 = .ok (.bipush 104, 2) := by decide +kernel
theorem d5_179 : decode method_4_code 179 = .ok (.castore, 1) := by decide +kernel
theorem d5_180 : decode method_4_code 180 = .ok (.dup, 1) := by decide +kernel
theorem d5_181 : decode method_4_code 181 = .ok (.bipush 10, 2) := by decide +kernel
theorem d5_183 : decode method_4_code 183 = .ok (.bipush 97, 2) := by decide +kernel
theorem d5_185 : decode method_4_code 185 = .ok (.castore, 1) := by decide +kernel
theorem d5_186 : decode method_4_code 186 = .ok (.dup, 1) := by decide +kernel
theorem d5_187 : decode method_4_code 187 = .ok (.bipush 11, 2) := by decide +kernel
theorem d5_189 : decode method_4_code 189 = .ok (.bipush 115, 2) := by decide +kernel
theorem d5_191 : decode method_4_code 191 = .ok (.castore, 1) := by decide +kernel
theorem d5_192 : decode method_4_code 192 = .ok (.dup, 1) := by decide +kernel
theorem d5_193 : decode method_4_code 193 = .ok (.bipush 12, 2) := by decide +kernel
theorem d5_195 : decode method_4_code 195 = .ok (.bipush 101, 2) := by decide +kernel
theorem d5_197 : decode method_4_code 197 = .ok (.castore, 1) := by decide +kernel
theorem d5_198 : decode method_4_code 198 = .ok (.dup, 1) := by decide +kernel
theorem d5_199 : decode method_4_code 199 = .ok (.bipush 13, 2) := by decide +kernel
theorem d5_201 : decode method_4_code 201 = .ok (.bipush 58, 2) := by decide +kernel
theorem d5_203 : decode method_4_code 203 = .ok (.castore, 1) := by decide +kernel
theorem d5_204 : decode method_4_code 204 = .ok (.dup, 1) := by decide +kernel
theorem d5_205 : decode method_4_code 205 = .ok (.bipush 14, 2) := by decide +kernel
theorem d5_207 : decode method_4_code 207 = .ok (.bipush 32, 2) := by decide +kernel
theorem d5_209 : decode method_4_code 209 = .ok (.castore, 1) := by decide +kernel
theorem d5_210 : decode method_4_code 210 = .ok (.dup, 1) := by decide +kernel
theorem d5_211 : decode method_4_code 211 = .ok (.bipush 15, 2) := by decide +kernel
theorem d5_213 : decode method_4_code 213 = .ok (.iload_n 1, 1) := by decide +kernel
theorem d5_214 : decode method_4_code 214 = .ok (.castore, 1) := by decide +kernel
theorem d5_215 : decode method_4_code 215 = .ok (.dup, 1) := by decide +kernel
theorem d5_216 : decode method_4_code 216 = .ok (.bipush 16, 2) := by decide +kernel
theorem d5_218 : decode method_4_code 218 = .ok (.iload_n 2, 1) := by decide +kernel
theorem d5_219 : decode method_4_code 219 = .ok (.castore, 1) := by decide +kernel
theorem d5_220 : decode method_4_code 220 = .ok (.invokespecial 41, 3) := by decide +kernel
theorem d5_223 : decode method_4_code 223 = .ok (.areturn, 1) := by decide +kernel
theorem d5_12 : decode method_4_code 12 = .ok (.new 32, 3) := by decide +kernel
theorem d5_15 : decode method_4_code 15 = .ok (.dup, 1) := by decide +kernel
theorem d5_16 : decode method_4_code 16 = .ok (.bipush 16, 2) := by decide +kernel
theorem d5_18 : decode method_4_code 18 = .ok (.newarray .char, 2) := by decide +kernel
theorem d5_20 : decode method_4_code 20 = .ok (.dup, 1) := by decide +kernel
theorem d5_21 : decode method_4_code 21 = .ok (.iconst 0, 1) := by decide +kernel
theorem d5_22 : decode method_4_code 22 = .ok (.bipush 110, 2) := by decide +kernel
theorem d5_24 : decode method_4_code 24 = .ok (.castore, 1) := by decide +kernel
theorem d5_25 : decode method_4_code 25 = .ok (.dup, 1) := by decide +kernel
theorem d5_26 : decode method_4_code 26 = .ok (.iconst 1, 1) := by decide +kernel
theorem d5_27 : decode method_4_code 27 = .ok (.bipush 111, 2) := by decide +kernel
theorem d5_29 : decode method_4_code 29 = .ok (.castore, 1) := by decide +kernel
theorem d5_30 : decode method_4_code 30 = .ok (.dup, 1) := by decide +kernel
theorem d5_31 : decode method_4_code 31 = .ok (.iconst 2, 1) := by decide +kernel
theorem d5_32 : decode method_4_code 32 = .ok (.bipush 32, 2) := by decide +kernel
theorem d5_34 : decode method_4_code 34 = .ok (.castore, 1) := by decide +kernel
theorem d5_35 : decode method_4_code 35 = .ok (.dup, 1) := by decide +kernel
theorem d5_36 : decode method_4_code 36 = .ok (.iconst 3, 1) := by decide +kernel
theorem d5_37 : decode method_4_code 37 = .ok (.bipush 115, 2) := by decide +kernel
theorem d5_39 : decode method_4_code 39 = .ok (.castore, 1) := by decide +kernel
theorem d5_40 : decode method_4_code 40 = .ok (.dup, 1) := by decide +kernel
theorem d5_41 : decode method_4_code 41 = .ok (.iconst 4, 1) := by decide +kernel
theorem d5_42 : decode method_4_code 42 = .ok (.bipush 117, 2) := by decide +kernel
theorem d5_44 : decode method_4_code 44 = .ok (.castore, 1) := by decide +kernel
theorem d5_45 : decode method_4_code 45 = .ok (.dup, 1) := by decide +kernel
theorem d5_46 : decode method_4_code 46 = .ok (.iconst 5, 1) := by decide +kernel
theorem d5_47 : decode method_4_code 47 = .ok (.bipush 99, 2) := by decide +kernel
theorem d5_49 : decode method_4_code 49 = .ok (.castore, 1) := by decide +kernel
theorem d5_50 : decode method_4_code 50 = .ok (.dup, 1) := by decide +kernel
theorem d5_51 : decode method_4_code 51 = .ok (.bipush 6, 2) := by decide +kernel
theorem d5_53 : decode method_4_code 53 = .ok (.bipush 104, 2) := by decide +kernel
theorem d5_55 : decode method_4_code 55 = .ok (.castore, 1) := by decide +kernel
theorem d5_56 : decode method_4_code 56 = .ok (.dup, 1) := by decide +kernel
theorem d5_57 : decode method_4_code 57 = .ok (.bipush 7, 2) := by decide +kernel
theorem d5_59 : decode method_4_code 59 = .ok (.bipush 32, 2) := by decide +kernel
theorem d5_61 : decode method_4_code 61 = .ok (.castore, 1) := by decide +kernel
theorem d5_62 : decode method_4_code 62 = .ok (.dup, 1) := by decide +kernel
theorem d5_63 : decode method_4_code 63 = .ok (.bipush 8, 2) := by decide +kernel
theorem d5_65 : decode method_4_code 65 = .ok (.bipush 112, 2) := by decide +kernel
theorem d5_67 : decode method_4_code 67 = .ok (.castore, 1) := by decide +kernel
theorem d5_68 : decode method_4_code 68 = .ok (.dup, 1) := by decide +kernel
theorem d5_69 : decode method_4_code 69 = .ok (.bipush 9, 2) := by decide +kernel
theorem d5_71 : decode method_4_code 71 = .ok (.bipush 104, 2) := by decide +kernel
theorem d5_73 : decode method_4_code 73 = .ok (.castore, 1) := by decide +kernel
theorem d5_74 : decode method_4_code 74 = .ok (.dup, 1) := by decide +kernel
theorem d5_75 : decode method_4_code 75 = .ok (.bipush 10, 2) := by decide +kernel
theorem d5_77 : decode method_4_code 77 = .ok (.bipush 97, 2) := by decide +kernel
theorem d5_79 : decode method_4_code 79 = .ok (.castore, 1) := by decide +kernel
theorem d5_80 : decode method_4_code 80 = .ok (.dup, 1) := by decide +kernel
theorem d5_81 : decode method_4_code 81 = .ok (.bipush 11, 2) := by decide +kernel
theorem d5_83 : decode method_4_code 83 = .ok (.bipush 115, 2) := by decide +kernel
theorem d5_85 : decode method_4_code 85 = .ok (.castore, 1) := by decide +kernel
theorem d5_86 : decode method_4_code 86 = .ok (.dup, 1) := by decide +kernel
theorem d5_87 : decode method_4_code 87 = .ok (.bipush 12, 2) := by decide +kernel
theorem d5_89 : decode method_4_code 89 = .ok (.bipush 101, 2) := by decide +kernel
theorem d5_91 : decode method_4_code 91 = .ok (.castore, 1) := by decide +kernel
theorem d5_92 : decode method_4_code 92 = .ok (.dup, 1) := by decide +kernel
theorem d5_93 : decode method_4_code 93 = .ok (.bipush 13, 2) := by decide +kernel
theorem d5_95 : decode method_4_code 95 = .ok (.bipush 58, 2) := by decide +kernel
theorem d5_97 : decode method_4_code 97 = .ok (.castore, 1) := by decide +kernel
theorem d5_98 : decode method_4_code 98 = .ok (.dup, 1) := by decide +kernel
theorem d5_99 : decode method_4_code 99 = .ok (.bipush 14, 2) := by decide +kernel
theorem d5_101 : decode method_4_code 101 = .ok (.bipush 32, 2) := by decide +kernel
theorem d5_103 : decode method_4_code 103 = .ok (.castore, 1) := by decide +kernel
theorem d5_104 : decode method_4_code 104 = .ok (.dup, 1) := by decide +kernel
theorem d5_105 : decode method_4_code 105 = .ok (.bipush 15, 2) := by decide +kernel
theorem d5_107 : decode method_4_code 107 = .ok (.iload_n 1, 1) := by decide +kernel
theorem d5_108 : decode method_4_code 108 = .ok (.castore, 1) := by decide +kernel
theorem d5_109 : decode method_4_code 109 = .ok (.invokespecial 41, 3) := by decide +kernel
theorem d5_112 : decode method_4_code 112 = .ok (.areturn, 1) := by decide +kernel
theorem d5_4 : decode method_4_code 4 = .ok (.ldc 44, 2) := by decide +kernel
theorem d5_6 : decode method_4_code 6 = .ok (.areturn, 1) := by decide +kernel
theorem pn_7768218 : plainFor (⟨"com/example/vanth/vanth/PhaseGraphNoSuchPhasePinLaw", "expected", "(ICCC)Ljava/lang/String;"⟩ : MethodName) = true := by first | exact plainFor_of_name (by first | (simp [plainName, overriddenIn]; done) | decide +kernel) | decide +kernel
set_option maxRecDepth 65536 in
set_option maxHeartbeats 4000000 in
theorem ct_exp (G : Own.Gx) (hw : ∀ d ∈ tables_1, d.before G.a0 G.Z = true) (hC : Own.CSt G) (hV : U16s G) (hnw : G.nw = false) (wS : ∀ a ∈ Bundle.stringAtoms, a.before G.a0 G.Z = true) (hcw : Jvm.Lit.compactW.before G.a0 G.Z = true) (hhs7 : Jvm.Lit.constHeld G.Z "java/lang/String" 7) (hhl44 : Jvm.Lit.constHeld G.Z "com/example/vanth/vanth/PhaseGraphNoSuchPhasePinLaw" 44) {As : List Own.Ent} {Li : List Own.LitE} (n a b c : Int32) (ha : a &&& 65535 = a) (hb : b &&& 65535 = b) (hc : c &&& 65535 = c) (hA : Own.LA As Li) :
    Own.Ct G [] (⟨"com/example/vanth/vanth/PhaseGraphNoSuchPhasePinLaw", "expected", "(ICCC)Ljava/lang/String;"⟩ : MethodName) method_4_code 4 (some (.object "java/lang/String")) ({ frames := 6, cells := 5, slots := 80, locals := 88 } : Room) [.int n, .int a, .int b, .int c] As Li (fun v A L => ∃ o, v = some (.ref o) ∧ StrT A o (own_P ++ own_cs n a b c) ∧ Own.Sub As A ∧ Own.LA A L) := by
  refine Own.Ct.intro pn_7768218 (Ls := [.val (.int n), .val (.int a), .val (.int b), .val (.int c)]) rfl rfl ?_
  intro K
  refine Own.W.iloadN (pc := 0) d5_0 rfl ?_
  refine Own.W.if_ne (pc := 1) 7 d5_1 (by decide) (by decide) ?_ ?_
  · intro h1
    refine Own.W.iloadN (pc := 7) d5_7 rfl ?_
    refine Own.W.iconst (pc := 8) (z := (1 : Int32)) d5_8 (by decide) ?_
    refine Own.W.ic_ne (pc := 9) 113 d5_9 (by decide) (by decide) ?_ ?_
    · intro h9
      refine Own.W.iloadN (pc := 113) d5_113 rfl ?_
      refine Own.W.iconst (pc := 114) (z := (2 : Int32)) d5_114 (by decide) ?_
      refine Own.W.ic_ne (pc := 115) 224 d5_115 (by decide) (by decide) ?_ ?_
      · intro h115
        refine Own.W.new (pc := 224) (hw _ (List.mem_of_getElem? (i := 5) rfl)) (hw _ (List.mem_of_getElem? (i := 6) rfl)) (hw _ (List.mem_of_getElem? (i := 7) rfl)) d5_224 (LF_java_lang_String G hw) (vs := [.null, .int 0]) (by decide) (Nat.le_of_ble_eq_true rfl) (Nat.le_of_ble_eq_true rfl) ?_
        intro o224
        refine Own.W.dup (pc := 227) d5_227 rfl ?_
        refine Own.W.bipush (pc := 228) (z := (18 : Int32)) d5_228 (by decide) ?_
        refine Own.W.newP (pc := 230) 18 (hw _ (List.mem_of_getElem? (i := 8) rfl)) d5_230 rfl (by decide) (Nat.le_of_ble_eq_true rfl) (by decide) (vs := [.int 0, .int 0, .int 0, .int 0, .int 0, .int 0, .int 0, .int 0, .int 0, .int 0, .int 0, .int 0, .int 0, .int 0, .int 0, .int 0, .int 0, .int 0]) rfl (Nat.le_of_ble_eq_true rfl) (Nat.le_of_ble_eq_true rfl) ?_
        intro o230
        refine Own.W.dup (pc := 232) d5_232 rfl ?_
        refine Own.W.iconst (pc := 233) (z := (0 : Int32)) d5_233 (by decide) ?_
        refine Own.W.bipush (pc := 234) (z := (110 : Int32)) d5_234 (by decide) ?_
        refine Own.W.castore (pc := 236) d5_236 (by decide) (i := 0) (by decide) (by simp) (u := .int 110) (by decide) (vs' := [.int 110, .int 0, .int 0, .int 0, .int 0, .int 0, .int 0, .int 0, .int 0, .int 0, .int 0, .int 0, .int 0, .int 0, .int 0, .int 0, .int 0, .int 0]) rfl Own.Upd.head ?_
        refine Own.W.dup (pc := 237) d5_237 rfl ?_
        refine Own.W.iconst (pc := 238) (z := (1 : Int32)) d5_238 (by decide) ?_
        refine Own.W.bipush (pc := 239) (z := (111 : Int32)) d5_239 (by decide) ?_
        refine Own.W.castore (pc := 241) d5_241 (by decide) (i := 1) (by decide) (by simp) (u := .int 111) (by decide) (vs' := [.int 110, .int 111, .int 0, .int 0, .int 0, .int 0, .int 0, .int 0, .int 0, .int 0, .int 0, .int 0, .int 0, .int 0, .int 0, .int 0, .int 0, .int 0]) rfl Own.Upd.head ?_
        refine Own.W.dup (pc := 242) d5_242 rfl ?_
        refine Own.W.iconst (pc := 243) (z := (2 : Int32)) d5_243 (by decide) ?_
        refine Own.W.bipush (pc := 244) (z := (32 : Int32)) d5_244 (by decide) ?_
        refine Own.W.castore (pc := 246) d5_246 (by decide) (i := 2) (by decide) (by simp) (u := .int 32) (by decide) (vs' := [.int 110, .int 111, .int 32, .int 0, .int 0, .int 0, .int 0, .int 0, .int 0, .int 0, .int 0, .int 0, .int 0, .int 0, .int 0, .int 0, .int 0, .int 0]) rfl Own.Upd.head ?_
        refine Own.W.dup (pc := 247) d5_247 rfl ?_
        refine Own.W.iconst (pc := 248) (z := (3 : Int32)) d5_248 (by decide) ?_
        refine Own.W.bipush (pc := 249) (z := (115 : Int32)) d5_249 (by decide) ?_
        refine Own.W.castore (pc := 251) d5_251 (by decide) (i := 3) (by decide) (by simp) (u := .int 115) (by decide) (vs' := [.int 110, .int 111, .int 32, .int 115, .int 0, .int 0, .int 0, .int 0, .int 0, .int 0, .int 0, .int 0, .int 0, .int 0, .int 0, .int 0, .int 0, .int 0]) rfl Own.Upd.head ?_
        refine Own.W.dup (pc := 252) d5_252 rfl ?_
        refine Own.W.iconst (pc := 253) (z := (4 : Int32)) d5_253 (by decide) ?_
        refine Own.W.bipush (pc := 254) (z := (117 : Int32)) d5_254 (by decide) ?_
        refine Own.W.castore (pc := 256) d5_256 (by decide) (i := 4) (by decide) (by simp) (u := .int 117) (by decide) (vs' := [.int 110, .int 111, .int 32, .int 115, .int 117, .int 0, .int 0, .int 0, .int 0, .int 0, .int 0, .int 0, .int 0, .int 0, .int 0, .int 0, .int 0, .int 0]) rfl Own.Upd.head ?_
        refine Own.W.dup (pc := 257) d5_257 rfl ?_
        refine Own.W.iconst (pc := 258) (z := (5 : Int32)) d5_258 (by decide) ?_
        refine Own.W.bipush (pc := 259) (z := (99 : Int32)) d5_259 (by decide) ?_
        refine Own.W.castore (pc := 261) d5_261 (by decide) (i := 5) (by decide) (by simp) (u := .int 99) (by decide) (vs' := [.int 110, .int 111, .int 32, .int 115, .int 117, .int 99, .int 0, .int 0, .int 0, .int 0, .int 0, .int 0, .int 0, .int 0, .int 0, .int 0, .int 0, .int 0]) rfl Own.Upd.head ?_
        refine Own.W.dup (pc := 262) d5_262 rfl ?_
        refine Own.W.bipush (pc := 263) (z := (6 : Int32)) d5_263 (by decide) ?_
        refine Own.W.bipush (pc := 265) (z := (104 : Int32)) d5_265 (by decide) ?_
        refine Own.W.castore (pc := 267) d5_267 (by decide) (i := 6) (by decide) (by simp) (u := .int 104) (by decide) (vs' := [.int 110, .int 111, .int 32, .int 115, .int 117, .int 99, .int 104, .int 0, .int 0, .int 0, .int 0, .int 0, .int 0, .int 0, .int 0, .int 0, .int 0, .int 0]) rfl Own.Upd.head ?_
        refine Own.W.dup (pc := 268) d5_268 rfl ?_
        refine Own.W.bipush (pc := 269) (z := (7 : Int32)) d5_269 (by decide) ?_
        refine Own.W.bipush (pc := 271) (z := (32 : Int32)) d5_271 (by decide) ?_
        refine Own.W.castore (pc := 273) d5_273 (by decide) (i := 7) (by decide) (by simp) (u := .int 32) (by decide) (vs' := [.int 110, .int 111, .int 32, .int 115, .int 117, .int 99, .int 104, .int 32, .int 0, .int 0, .int 0, .int 0, .int 0, .int 0, .int 0, .int 0, .int 0, .int 0]) rfl Own.Upd.head ?_
        refine Own.W.dup (pc := 274) d5_274 rfl ?_
        refine Own.W.bipush (pc := 275) (z := (8 : Int32)) d5_275 (by decide) ?_
        refine Own.W.bipush (pc := 277) (z := (112 : Int32)) d5_277 (by decide) ?_
        refine Own.W.castore (pc := 279) d5_279 (by decide) (i := 8) (by decide) (by simp) (u := .int 112) (by decide) (vs' := [.int 110, .int 111, .int 32, .int 115, .int 117, .int 99, .int 104, .int 32, .int 112, .int 0, .int 0, .int 0, .int 0, .int 0, .int 0, .int 0, .int 0, .int 0]) rfl Own.Upd.head ?_
        refine Own.W.dup (pc := 280) d5_280 rfl ?_
        refine Own.W.bipush (pc := 281) (z := (9 : Int32)) d5_281 (by decide) ?_
        refine Own.W.bipush (pc := 283) (z := (104 : Int32)) d5_283 (by decide) ?_
        refine Own.W.castore (pc := 285) d5_285 (by decide) (i := 9) (by decide) (by simp) (u := .int 104) (by decide) (vs' := [.int 110, .int 111, .int 32, .int 115, .int 117, .int 99, .int 104, .int 32, .int 112, .int 104, .int 0, .int 0, .int 0, .int 0, .int 0, .int 0, .int 0, .int 0]) rfl Own.Upd.head ?_
        refine Own.W.dup (pc := 286) d5_286 rfl ?_
        refine Own.W.bipush (pc := 287) (z := (10 : Int32)) d5_287 (by decide) ?_
        refine Own.W.bipush (pc := 289) (z := (97 : Int32)) d5_289 (by decide) ?_
        refine Own.W.castore (pc := 291) d5_291 (by decide) (i := 10) (by decide) (by simp) (u := .int 97) (by decide) (vs' := [.int 110, .int 111, .int 32, .int 115, .int 117, .int 99, .int 104, .int 32, .int 112, .int 104, .int 97, .int 0, .int 0, .int 0, .int 0, .int 0, .int 0, .int 0]) rfl Own.Upd.head ?_
        refine Own.W.dup (pc := 292) d5_292 rfl ?_
        refine Own.W.bipush (pc := 293) (z := (11 : Int32)) d5_293 (by decide) ?_
        refine Own.W.bipush (pc := 295) (z := (115 : Int32)) d5_295 (by decide) ?_
        refine Own.W.castore (pc := 297) d5_297 (by decide) (i := 11) (by decide) (by simp) (u := .int 115) (by decide) (vs' := [.int 110, .int 111, .int 32, .int 115, .int 117, .int 99, .int 104, .int 32, .int 112, .int 104, .int 97, .int 115, .int 0, .int 0, .int 0, .int 0, .int 0, .int 0]) rfl Own.Upd.head ?_
        refine Own.W.dup (pc := 298) d5_298 rfl ?_
        refine Own.W.bipush (pc := 299) (z := (12 : Int32)) d5_299 (by decide) ?_
        refine Own.W.bipush (pc := 301) (z := (101 : Int32)) d5_301 (by decide) ?_
        refine Own.W.castore (pc := 303) d5_303 (by decide) (i := 12) (by decide) (by simp) (u := .int 101) (by decide) (vs' := [.int 110, .int 111, .int 32, .int 115, .int 117, .int 99, .int 104, .int 32, .int 112, .int 104, .int 97, .int 115, .int 101, .int 0, .int 0, .int 0, .int 0, .int 0]) rfl Own.Upd.head ?_
        refine Own.W.dup (pc := 304) d5_304 rfl ?_
        refine Own.W.bipush (pc := 305) (z := (13 : Int32)) d5_305 (by decide) ?_
        refine Own.W.bipush (pc := 307) (z := (58 : Int32)) d5_307 (by decide) ?_
        refine Own.W.castore (pc := 309) d5_309 (by decide) (i := 13) (by decide) (by simp) (u := .int 58) (by decide) (vs' := [.int 110, .int 111, .int 32, .int 115, .int 117, .int 99, .int 104, .int 32, .int 112, .int 104, .int 97, .int 115, .int 101, .int 58, .int 0, .int 0, .int 0, .int 0]) rfl Own.Upd.head ?_
        refine Own.W.dup (pc := 310) d5_310 rfl ?_
        refine Own.W.bipush (pc := 311) (z := (14 : Int32)) d5_311 (by decide) ?_
        refine Own.W.bipush (pc := 313) (z := (32 : Int32)) d5_313 (by decide) ?_
        refine Own.W.castore (pc := 315) d5_315 (by decide) (i := 14) (by decide) (by simp) (u := .int 32) (by decide) (vs' := [.int 110, .int 111, .int 32, .int 115, .int 117, .int 99, .int 104, .int 32, .int 112, .int 104, .int 97, .int 115, .int 101, .int 58, .int 32, .int 0, .int 0, .int 0]) rfl Own.Upd.head ?_
        refine Own.W.dup (pc := 316) d5_316 rfl ?_
        refine Own.W.bipush (pc := 317) (z := (15 : Int32)) d5_317 (by decide) ?_
        refine Own.W.iloadN (pc := 319) d5_319 rfl ?_
        refine Own.W.castore (pc := 320) d5_320 (by decide) (i := 15) (by decide) (by simp) (u := .int a) (congrArg Value.int (Own.nar16 ha)) (vs' := [.int 110, .int 111, .int 32, .int 115, .int 117, .int 99, .int 104, .int 32, .int 112, .int 104, .int 97, .int 115, .int 101, .int 58, .int 32, .int a, .int 0, .int 0]) rfl Own.Upd.head ?_
        refine Own.W.dup (pc := 321) d5_321 rfl ?_
        refine Own.W.bipush (pc := 322) (z := (16 : Int32)) d5_322 (by decide) ?_
        refine Own.W.iloadN (pc := 324) d5_324 rfl ?_
        refine Own.W.castore (pc := 325) d5_325 (by decide) (i := 16) (by decide) (by simp) (u := .int b) (congrArg Value.int (Own.nar16 hb)) (vs' := [.int 110, .int 111, .int 32, .int 115, .int 117, .int 99, .int 104, .int 32, .int 112, .int 104, .int 97, .int 115, .int 101, .int 58, .int 32, .int a, .int b, .int 0]) rfl Own.Upd.head ?_
        refine Own.W.dup (pc := 326) d5_326 rfl ?_
        refine Own.W.bipush (pc := 327) (z := (17 : Int32)) d5_327 (by decide) ?_
        refine Own.W.iloadN (pc := 329) d5_329 rfl ?_
        refine Own.W.castore (pc := 330) d5_330 (by decide) (i := 17) (by decide) (by simp) (u := .int c) (congrArg Value.int (Own.nar16 hc)) (vs' := [.int 110, .int 111, .int 32, .int 115, .int 117, .int 99, .int 104, .int 32, .int 112, .int 104, .int 97, .int 115, .int 101, .int 58, .int 32, .int a, .int b, .int c]) rfl Own.Upd.head ?_
        refine Own.W.perm ?_ (List.Perm.swap _ _ _)
        refine Own.W.callI (pc := 331) (ct_strT G hw hC hV o224 o230 [110, 111, 32, 115, 117, 99, 104, 32, 112, 104, 97, 115, 101, 58, 32, a, b, c] 18 (by simp) (by simp) (by decide) (own_hP (own_h3 ha hb hc)) (Own.AVin.mem (List.Mem.head _))) d5_331 rfl (hw _ (List.mem_of_getElem? (i := 9) rfl)) (hw _ (List.mem_of_getElem? (i := 10) rfl)) (hw _ (List.mem_of_getElem? (i := 7) rfl)) (hw _ (List.mem_of_getElem? (i := 11) rfl)) (by decide) pd_84933738 rfl rfl (Nat.le_of_ble_eq_true rfl) (Nat.le_of_ble_eq_true rfl) (Nat.le_of_ble_eq_true rfl) (by first | exact Nat.le_of_ble_eq_true rfl | (simp; done) | (simp; omega)) ?_
        rintro _ _ _ ⟨b_, J, rfl, rfl, rfl⟩
        refine Own.W.frz Own.Frz.head ?_
        refine Own.W.frz own_frzJ ?_
        refine Own.W.aret (pc := 334) d5_334 rfl rfl rfl ?_ (Nat.le_of_ble_eq_true rfl) (Nat.le_of_ble_eq_true rfl)
        exact ⟨_, rfl, by rw [show own_P ++ own_cs n a b c = [110, 111, 32, 115, 117, 99, 104, 32, 112, 104, 97, 115, 101, 58, 32, a, b, c] from by rw [show own_cs n a b c = [a, b, c] from by unfold own_cs; rw [if_neg h1, if_neg h9, if_neg h115]]; rfl]; exact ⟨b_, _, _, own_memJ, (by repeat (first | exact Own.FAt.head | apply Own.FAt.tail)), (by repeat (first | exact Own.FAt.head | apply Own.FAt.tail)), List.Mem.head _⟩, fun e he => own_subJ e (List.Mem.tail _ he), hA.sub fun e he => own_subJ e (List.Mem.tail _ he)⟩
      · intro h115
        refine Own.W.new (pc := 118) (hw _ (List.mem_of_getElem? (i := 5) rfl)) (hw _ (List.mem_of_getElem? (i := 6) rfl)) (hw _ (List.mem_of_getElem? (i := 7) rfl)) d5_118 (LF_java_lang_String G hw) (vs := [.null, .int 0]) (by decide) (Nat.le_of_ble_eq_true rfl) (Nat.le_of_ble_eq_true rfl) ?_
        intro o118
        refine Own.W.dup (pc := 121) d5_121 rfl ?_
        refine Own.W.bipush (pc := 122) (z := (17 : Int32)) d5_122 (by decide) ?_
        refine Own.W.newP (pc := 124) 17 (hw _ (List.mem_of_getElem? (i := 8) rfl)) d5_124 rfl (by decide) (Nat.le_of_ble_eq_true rfl) (by decide) (vs := [.int 0, .int 0, .int 0, .int 0, .int 0, .int 0, .int 0, .int 0, .int 0, .int 0, .int 0, .int 0, .int 0, .int 0, .int 0, .int 0, .int 0]) rfl (Nat.le_of_ble_eq_true rfl) (Nat.le_of_ble_eq_true rfl) ?_
        intro o124
        refine Own.W.dup (pc := 126) d5_126 rfl ?_
        refine Own.W.iconst (pc := 127) (z := (0 : Int32)) d5_127 (by decide) ?_
        refine Own.W.bipush (pc := 128) (z := (110 : Int32)) d5_128 (by decide) ?_
        refine Own.W.castore (pc := 130) d5_130 (by decide) (i := 0) (by decide) (by simp) (u := .int 110) (by decide) (vs' := [.int 110, .int 0, .int 0, .int 0, .int 0, .int 0, .int 0, .int 0, .int 0, .int 0, .int 0, .int 0, .int 0, .int 0, .int 0, .int 0, .int 0]) rfl Own.Upd.head ?_
        refine Own.W.dup (pc := 131) d5_131 rfl ?_
        refine Own.W.iconst (pc := 132) (z := (1 : Int32)) d5_132 (by decide) ?_
        refine Own.W.bipush (pc := 133) (z := (111 : Int32)) d5_133 (by decide) ?_
        refine Own.W.castore (pc := 135) d5_135 (by decide) (i := 1) (by decide) (by simp) (u := .int 111) (by decide) (vs' := [.int 110, .int 111, .int 0, .int 0, .int 0, .int 0, .int 0, .int 0, .int 0, .int 0, .int 0, .int 0, .int 0, .int 0, .int 0, .int 0, .int 0]) rfl Own.Upd.head ?_
        refine Own.W.dup (pc := 136) d5_136 rfl ?_
        refine Own.W.iconst (pc := 137) (z := (2 : Int32)) d5_137 (by decide) ?_
        refine Own.W.bipush (pc := 138) (z := (32 : Int32)) d5_138 (by decide) ?_
        refine Own.W.castore (pc := 140) d5_140 (by decide) (i := 2) (by decide) (by simp) (u := .int 32) (by decide) (vs' := [.int 110, .int 111, .int 32, .int 0, .int 0, .int 0, .int 0, .int 0, .int 0, .int 0, .int 0, .int 0, .int 0, .int 0, .int 0, .int 0, .int 0]) rfl Own.Upd.head ?_
        refine Own.W.dup (pc := 141) d5_141 rfl ?_
        refine Own.W.iconst (pc := 142) (z := (3 : Int32)) d5_142 (by decide) ?_
        refine Own.W.bipush (pc := 143) (z := (115 : Int32)) d5_143 (by decide) ?_
        refine Own.W.castore (pc := 145) d5_145 (by decide) (i := 3) (by decide) (by simp) (u := .int 115) (by decide) (vs' := [.int 110, .int 111, .int 32, .int 115, .int 0, .int 0, .int 0, .int 0, .int 0, .int 0, .int 0, .int 0, .int 0, .int 0, .int 0, .int 0, .int 0]) rfl Own.Upd.head ?_
        refine Own.W.dup (pc := 146) d5_146 rfl ?_
        refine Own.W.iconst (pc := 147) (z := (4 : Int32)) d5_147 (by decide) ?_
        refine Own.W.bipush (pc := 148) (z := (117 : Int32)) d5_148 (by decide) ?_
        refine Own.W.castore (pc := 150) d5_150 (by decide) (i := 4) (by decide) (by simp) (u := .int 117) (by decide) (vs' := [.int 110, .int 111, .int 32, .int 115, .int 117, .int 0, .int 0, .int 0, .int 0, .int 0, .int 0, .int 0, .int 0, .int 0, .int 0, .int 0, .int 0]) rfl Own.Upd.head ?_
        refine Own.W.dup (pc := 151) d5_151 rfl ?_
        refine Own.W.iconst (pc := 152) (z := (5 : Int32)) d5_152 (by decide) ?_
        refine Own.W.bipush (pc := 153) (z := (99 : Int32)) d5_153 (by decide) ?_
        refine Own.W.castore (pc := 155) d5_155 (by decide) (i := 5) (by decide) (by simp) (u := .int 99) (by decide) (vs' := [.int 110, .int 111, .int 32, .int 115, .int 117, .int 99, .int 0, .int 0, .int 0, .int 0, .int 0, .int 0, .int 0, .int 0, .int 0, .int 0, .int 0]) rfl Own.Upd.head ?_
        refine Own.W.dup (pc := 156) d5_156 rfl ?_
        refine Own.W.bipush (pc := 157) (z := (6 : Int32)) d5_157 (by decide) ?_
        refine Own.W.bipush (pc := 159) (z := (104 : Int32)) d5_159 (by decide) ?_
        refine Own.W.castore (pc := 161) d5_161 (by decide) (i := 6) (by decide) (by simp) (u := .int 104) (by decide) (vs' := [.int 110, .int 111, .int 32, .int 115, .int 117, .int 99, .int 104, .int 0, .int 0, .int 0, .int 0, .int 0, .int 0, .int 0, .int 0, .int 0, .int 0]) rfl Own.Upd.head ?_
        refine Own.W.dup (pc := 162) d5_162 rfl ?_
        refine Own.W.bipush (pc := 163) (z := (7 : Int32)) d5_163 (by decide) ?_
        refine Own.W.bipush (pc := 165) (z := (32 : Int32)) d5_165 (by decide) ?_
        refine Own.W.castore (pc := 167) d5_167 (by decide) (i := 7) (by decide) (by simp) (u := .int 32) (by decide) (vs' := [.int 110, .int 111, .int 32, .int 115, .int 117, .int 99, .int 104, .int 32, .int 0, .int 0, .int 0, .int 0, .int 0, .int 0, .int 0, .int 0, .int 0]) rfl Own.Upd.head ?_
        refine Own.W.dup (pc := 168) d5_168 rfl ?_
        refine Own.W.bipush (pc := 169) (z := (8 : Int32)) d5_169 (by decide) ?_
        refine Own.W.bipush (pc := 171) (z := (112 : Int32)) d5_171 (by decide) ?_
        refine Own.W.castore (pc := 173) d5_173 (by decide) (i := 8) (by decide) (by simp) (u := .int 112) (by decide) (vs' := [.int 110, .int 111, .int 32, .int 115, .int 117, .int 99, .int 104, .int 32, .int 112, .int 0, .int 0, .int 0, .int 0, .int 0, .int 0, .int 0, .int 0]) rfl Own.Upd.head ?_
        refine Own.W.dup (pc := 174) d5_174 rfl ?_
        refine Own.W.bipush (pc := 175) (z := (9 : Int32)) d5_175 (by decide) ?_
        refine Own.W.bipush (pc := 177) (z := (104 : Int32)) d5_177 (by decide) ?_
        refine Own.W.castore (pc := 179) d5_179 (by decide) (i := 9) (by decide) (by simp) (u := .int 104) (by decide) (vs' := [.int 110, .int 111, .int 32, .int 115, .int 117, .int 99, .int 104, .int 32, .int 112, .int 104, .int 0, .int 0, .int 0, .int 0, .int 0, .int 0, .int 0]) rfl Own.Upd.head ?_
        refine Own.W.dup (pc := 180) d5_180 rfl ?_
        refine Own.W.bipush (pc := 181) (z := (10 : Int32)) d5_181 (by decide) ?_
        refine Own.W.bipush (pc := 183) (z := (97 : Int32)) d5_183 (by decide) ?_
        refine Own.W.castore (pc := 185) d5_185 (by decide) (i := 10) (by decide) (by simp) (u := .int 97) (by decide) (vs' := [.int 110, .int 111, .int 32, .int 115, .int 117, .int 99, .int 104, .int 32, .int 112, .int 104, .int 97, .int 0, .int 0, .int 0, .int 0, .int 0, .int 0]) rfl Own.Upd.head ?_
        refine Own.W.dup (pc := 186) d5_186 rfl ?_
        refine Own.W.bipush (pc := 187) (z := (11 : Int32)) d5_187 (by decide) ?_
        refine Own.W.bipush (pc := 189) (z := (115 : Int32)) d5_189 (by decide) ?_
        refine Own.W.castore (pc := 191) d5_191 (by decide) (i := 11) (by decide) (by simp) (u := .int 115) (by decide) (vs' := [.int 110, .int 111, .int 32, .int 115, .int 117, .int 99, .int 104, .int 32, .int 112, .int 104, .int 97, .int 115, .int 0, .int 0, .int 0, .int 0, .int 0]) rfl Own.Upd.head ?_
        refine Own.W.dup (pc := 192) d5_192 rfl ?_
        refine Own.W.bipush (pc := 193) (z := (12 : Int32)) d5_193 (by decide) ?_
        refine Own.W.bipush (pc := 195) (z := (101 : Int32)) d5_195 (by decide) ?_
        refine Own.W.castore (pc := 197) d5_197 (by decide) (i := 12) (by decide) (by simp) (u := .int 101) (by decide) (vs' := [.int 110, .int 111, .int 32, .int 115, .int 117, .int 99, .int 104, .int 32, .int 112, .int 104, .int 97, .int 115, .int 101, .int 0, .int 0, .int 0, .int 0]) rfl Own.Upd.head ?_
        refine Own.W.dup (pc := 198) d5_198 rfl ?_
        refine Own.W.bipush (pc := 199) (z := (13 : Int32)) d5_199 (by decide) ?_
        refine Own.W.bipush (pc := 201) (z := (58 : Int32)) d5_201 (by decide) ?_
        refine Own.W.castore (pc := 203) d5_203 (by decide) (i := 13) (by decide) (by simp) (u := .int 58) (by decide) (vs' := [.int 110, .int 111, .int 32, .int 115, .int 117, .int 99, .int 104, .int 32, .int 112, .int 104, .int 97, .int 115, .int 101, .int 58, .int 0, .int 0, .int 0]) rfl Own.Upd.head ?_
        refine Own.W.dup (pc := 204) d5_204 rfl ?_
        refine Own.W.bipush (pc := 205) (z := (14 : Int32)) d5_205 (by decide) ?_
        refine Own.W.bipush (pc := 207) (z := (32 : Int32)) d5_207 (by decide) ?_
        refine Own.W.castore (pc := 209) d5_209 (by decide) (i := 14) (by decide) (by simp) (u := .int 32) (by decide) (vs' := [.int 110, .int 111, .int 32, .int 115, .int 117, .int 99, .int 104, .int 32, .int 112, .int 104, .int 97, .int 115, .int 101, .int 58, .int 32, .int 0, .int 0]) rfl Own.Upd.head ?_
        refine Own.W.dup (pc := 210) d5_210 rfl ?_
        refine Own.W.bipush (pc := 211) (z := (15 : Int32)) d5_211 (by decide) ?_
        refine Own.W.iloadN (pc := 213) d5_213 rfl ?_
        refine Own.W.castore (pc := 214) d5_214 (by decide) (i := 15) (by decide) (by simp) (u := .int a) (congrArg Value.int (Own.nar16 ha)) (vs' := [.int 110, .int 111, .int 32, .int 115, .int 117, .int 99, .int 104, .int 32, .int 112, .int 104, .int 97, .int 115, .int 101, .int 58, .int 32, .int a, .int 0]) rfl Own.Upd.head ?_
        refine Own.W.dup (pc := 215) d5_215 rfl ?_
        refine Own.W.bipush (pc := 216) (z := (16 : Int32)) d5_216 (by decide) ?_
        refine Own.W.iloadN (pc := 218) d5_218 rfl ?_
        refine Own.W.castore (pc := 219) d5_219 (by decide) (i := 16) (by decide) (by simp) (u := .int b) (congrArg Value.int (Own.nar16 hb)) (vs' := [.int 110, .int 111, .int 32, .int 115, .int 117, .int 99, .int 104, .int 32, .int 112, .int 104, .int 97, .int 115, .int 101, .int 58, .int 32, .int a, .int b]) rfl Own.Upd.head ?_
        refine Own.W.perm ?_ (List.Perm.swap _ _ _)
        refine Own.W.callI (pc := 220) (ct_strT G hw hC hV o118 o124 [110, 111, 32, 115, 117, 99, 104, 32, 112, 104, 97, 115, 101, 58, 32, a, b] 17 (by simp) (by simp) (by decide) (own_hP (fun z hz => own_h3 ha hb hb z (by rcases List.mem_cons.mp hz with rfl | hz; exact List.Mem.head _; exact List.Mem.tail _ (by cases List.mem_singleton.mp hz; exact List.Mem.head _)))) (Own.AVin.mem (List.Mem.head _))) d5_220 rfl (hw _ (List.mem_of_getElem? (i := 9) rfl)) (hw _ (List.mem_of_getElem? (i := 10) rfl)) (hw _ (List.mem_of_getElem? (i := 7) rfl)) (hw _ (List.mem_of_getElem? (i := 11) rfl)) (by decide) pd_84933738 rfl rfl (Nat.le_of_ble_eq_true rfl) (Nat.le_of_ble_eq_true rfl) (Nat.le_of_ble_eq_true rfl) (by first | exact Nat.le_of_ble_eq_true rfl | (simp; done) | (simp; omega)) ?_
        rintro _ _ _ ⟨b_, J, rfl, rfl, rfl⟩
        refine Own.W.frz Own.Frz.head ?_
        refine Own.W.frz own_frzJ ?_
        refine Own.W.aret (pc := 223) d5_223 rfl rfl rfl ?_ (Nat.le_of_ble_eq_true rfl) (Nat.le_of_ble_eq_true rfl)
        exact ⟨_, rfl, by rw [show own_P ++ own_cs n a b c = [110, 111, 32, 115, 117, 99, 104, 32, 112, 104, 97, 115, 101, 58, 32, a, b] from by rw [show own_cs n a b c = [a, b] from by unfold own_cs; rw [if_neg h1, if_neg h9, if_pos h115]]; rfl]; exact ⟨b_, _, _, own_memJ, (by repeat (first | exact Own.FAt.head | apply Own.FAt.tail)), (by repeat (first | exact Own.FAt.head | apply Own.FAt.tail)), List.Mem.head _⟩, fun e he => own_subJ e (List.Mem.tail _ he), hA.sub fun e he => own_subJ e (List.Mem.tail _ he)⟩
    · intro h9
      refine Own.W.new (pc := 12) (hw _ (List.mem_of_getElem? (i := 5) rfl)) (hw _ (List.mem_of_getElem? (i := 6) rfl)) (hw _ (List.mem_of_getElem? (i := 7) rfl)) d5_12 (LF_java_lang_String G hw) (vs := [.null, .int 0]) (by decide) (Nat.le_of_ble_eq_true rfl) (Nat.le_of_ble_eq_true rfl) ?_
      intro o12
      refine Own.W.dup (pc := 15) d5_15 rfl ?_
      refine Own.W.bipush (pc := 16) (z := (16 : Int32)) d5_16 (by decide) ?_
      refine Own.W.newP (pc := 18) 16 (hw _ (List.mem_of_getElem? (i := 8) rfl)) d5_18 rfl (by decide) (Nat.le_of_ble_eq_true rfl) (by decide) (vs := [.int 0, .int 0, .int 0, .int 0, .int 0, .int 0, .int 0, .int 0, .int 0, .int 0, .int 0, .int 0, .int 0, .int 0, .int 0, .int 0]) rfl (Nat.le_of_ble_eq_true rfl) (Nat.le_of_ble_eq_true rfl) ?_
      intro o18
      refine Own.W.dup (pc := 20) d5_20 rfl ?_
      refine Own.W.iconst (pc := 21) (z := (0 : Int32)) d5_21 (by decide) ?_
      refine Own.W.bipush (pc := 22) (z := (110 : Int32)) d5_22 (by decide) ?_
      refine Own.W.castore (pc := 24) d5_24 (by decide) (i := 0) (by decide) (by simp) (u := .int 110) (by decide) (vs' := [.int 110, .int 0, .int 0, .int 0, .int 0, .int 0, .int 0, .int 0, .int 0, .int 0, .int 0, .int 0, .int 0, .int 0, .int 0, .int 0]) rfl Own.Upd.head ?_
      refine Own.W.dup (pc := 25) d5_25 rfl ?_
      refine Own.W.iconst (pc := 26) (z := (1 : Int32)) d5_26 (by decide) ?_
      refine Own.W.bipush (pc := 27) (z := (111 : Int32)) d5_27 (by decide) ?_
      refine Own.W.castore (pc := 29) d5_29 (by decide) (i := 1) (by decide) (by simp) (u := .int 111) (by decide) (vs' := [.int 110, .int 111, .int 0, .int 0, .int 0, .int 0, .int 0, .int 0, .int 0, .int 0, .int 0, .int 0, .int 0, .int 0, .int 0, .int 0]) rfl Own.Upd.head ?_
      refine Own.W.dup (pc := 30) d5_30 rfl ?_
      refine Own.W.iconst (pc := 31) (z := (2 : Int32)) d5_31 (by decide) ?_
      refine Own.W.bipush (pc := 32) (z := (32 : Int32)) d5_32 (by decide) ?_
      refine Own.W.castore (pc := 34) d5_34 (by decide) (i := 2) (by decide) (by simp) (u := .int 32) (by decide) (vs' := [.int 110, .int 111, .int 32, .int 0, .int 0, .int 0, .int 0, .int 0, .int 0, .int 0, .int 0, .int 0, .int 0, .int 0, .int 0, .int 0]) rfl Own.Upd.head ?_
      refine Own.W.dup (pc := 35) d5_35 rfl ?_
      refine Own.W.iconst (pc := 36) (z := (3 : Int32)) d5_36 (by decide) ?_
      refine Own.W.bipush (pc := 37) (z := (115 : Int32)) d5_37 (by decide) ?_
      refine Own.W.castore (pc := 39) d5_39 (by decide) (i := 3) (by decide) (by simp) (u := .int 115) (by decide) (vs' := [.int 110, .int 111, .int 32, .int 115, .int 0, .int 0, .int 0, .int 0, .int 0, .int 0, .int 0, .int 0, .int 0, .int 0, .int 0, .int 0]) rfl Own.Upd.head ?_
      refine Own.W.dup (pc := 40) d5_40 rfl ?_
      refine Own.W.iconst (pc := 41) (z := (4 : Int32)) d5_41 (by decide) ?_
      refine Own.W.bipush (pc := 42) (z := (117 : Int32)) d5_42 (by decide) ?_
      refine Own.W.castore (pc := 44) d5_44 (by decide) (i := 4) (by decide) (by simp) (u := .int 117) (by decide) (vs' := [.int 110, .int 111, .int 32, .int 115, .int 117, .int 0, .int 0, .int 0, .int 0, .int 0, .int 0, .int 0, .int 0, .int 0, .int 0, .int 0]) rfl Own.Upd.head ?_
      refine Own.W.dup (pc := 45) d5_45 rfl ?_
      refine Own.W.iconst (pc := 46) (z := (5 : Int32)) d5_46 (by decide) ?_
      refine Own.W.bipush (pc := 47) (z := (99 : Int32)) d5_47 (by decide) ?_
      refine Own.W.castore (pc := 49) d5_49 (by decide) (i := 5) (by decide) (by simp) (u := .int 99) (by decide) (vs' := [.int 110, .int 111, .int 32, .int 115, .int 117, .int 99, .int 0, .int 0, .int 0, .int 0, .int 0, .int 0, .int 0, .int 0, .int 0, .int 0]) rfl Own.Upd.head ?_
      refine Own.W.dup (pc := 50) d5_50 rfl ?_
      refine Own.W.bipush (pc := 51) (z := (6 : Int32)) d5_51 (by decide) ?_
      refine Own.W.bipush (pc := 53) (z := (104 : Int32)) d5_53 (by decide) ?_
      refine Own.W.castore (pc := 55) d5_55 (by decide) (i := 6) (by decide) (by simp) (u := .int 104) (by decide) (vs' := [.int 110, .int 111, .int 32, .int 115, .int 117, .int 99, .int 104, .int 0, .int 0, .int 0, .int 0, .int 0, .int 0, .int 0, .int 0, .int 0]) rfl Own.Upd.head ?_
      refine Own.W.dup (pc := 56) d5_56 rfl ?_
      refine Own.W.bipush (pc := 57) (z := (7 : Int32)) d5_57 (by decide) ?_
      refine Own.W.bipush (pc := 59) (z := (32 : Int32)) d5_59 (by decide) ?_
      refine Own.W.castore (pc := 61) d5_61 (by decide) (i := 7) (by decide) (by simp) (u := .int 32) (by decide) (vs' := [.int 110, .int 111, .int 32, .int 115, .int 117, .int 99, .int 104, .int 32, .int 0, .int 0, .int 0, .int 0, .int 0, .int 0, .int 0, .int 0]) rfl Own.Upd.head ?_
      refine Own.W.dup (pc := 62) d5_62 rfl ?_
      refine Own.W.bipush (pc := 63) (z := (8 : Int32)) d5_63 (by decide) ?_
      refine Own.W.bipush (pc := 65) (z := (112 : Int32)) d5_65 (by decide) ?_
      refine Own.W.castore (pc := 67) d5_67 (by decide) (i := 8) (by decide) (by simp) (u := .int 112) (by decide) (vs' := [.int 110, .int 111, .int 32, .int 115, .int 117, .int 99, .int 104, .int 32, .int 112, .int 0, .int 0, .int 0, .int 0, .int 0, .int 0, .int 0]) rfl Own.Upd.head ?_
      refine Own.W.dup (pc := 68) d5_68 rfl ?_
      refine Own.W.bipush (pc := 69) (z := (9 : Int32)) d5_69 (by decide) ?_
      refine Own.W.bipush (pc := 71) (z := (104 : Int32)) d5_71 (by decide) ?_
      refine Own.W.castore (pc := 73) d5_73 (by decide) (i := 9) (by decide) (by simp) (u := .int 104) (by decide) (vs' := [.int 110, .int 111, .int 32, .int 115, .int 117, .int 99, .int 104, .int 32, .int 112, .int 104, .int 0, .int 0, .int 0, .int 0, .int 0, .int 0]) rfl Own.Upd.head ?_
      refine Own.W.dup (pc := 74) d5_74 rfl ?_
      refine Own.W.bipush (pc := 75) (z := (10 : Int32)) d5_75 (by decide) ?_
      refine Own.W.bipush (pc := 77) (z := (97 : Int32)) d5_77 (by decide) ?_
      refine Own.W.castore (pc := 79) d5_79 (by decide) (i := 10) (by decide) (by simp) (u := .int 97) (by decide) (vs' := [.int 110, .int 111, .int 32, .int 115, .int 117, .int 99, .int 104, .int 32, .int 112, .int 104, .int 97, .int 0, .int 0, .int 0, .int 0, .int 0]) rfl Own.Upd.head ?_
      refine Own.W.dup (pc := 80) d5_80 rfl ?_
      refine Own.W.bipush (pc := 81) (z := (11 : Int32)) d5_81 (by decide) ?_
      refine Own.W.bipush (pc := 83) (z := (115 : Int32)) d5_83 (by decide) ?_
      refine Own.W.castore (pc := 85) d5_85 (by decide) (i := 11) (by decide) (by simp) (u := .int 115) (by decide) (vs' := [.int 110, .int 111, .int 32, .int 115, .int 117, .int 99, .int 104, .int 32, .int 112, .int 104, .int 97, .int 115, .int 0, .int 0, .int 0, .int 0]) rfl Own.Upd.head ?_
      refine Own.W.dup (pc := 86) d5_86 rfl ?_
      refine Own.W.bipush (pc := 87) (z := (12 : Int32)) d5_87 (by decide) ?_
      refine Own.W.bipush (pc := 89) (z := (101 : Int32)) d5_89 (by decide) ?_
      refine Own.W.castore (pc := 91) d5_91 (by decide) (i := 12) (by decide) (by simp) (u := .int 101) (by decide) (vs' := [.int 110, .int 111, .int 32, .int 115, .int 117, .int 99, .int 104, .int 32, .int 112, .int 104, .int 97, .int 115, .int 101, .int 0, .int 0, .int 0]) rfl Own.Upd.head ?_
      refine Own.W.dup (pc := 92) d5_92 rfl ?_
      refine Own.W.bipush (pc := 93) (z := (13 : Int32)) d5_93 (by decide) ?_
      refine Own.W.bipush (pc := 95) (z := (58 : Int32)) d5_95 (by decide) ?_
      refine Own.W.castore (pc := 97) d5_97 (by decide) (i := 13) (by decide) (by simp) (u := .int 58) (by decide) (vs' := [.int 110, .int 111, .int 32, .int 115, .int 117, .int 99, .int 104, .int 32, .int 112, .int 104, .int 97, .int 115, .int 101, .int 58, .int 0, .int 0]) rfl Own.Upd.head ?_
      refine Own.W.dup (pc := 98) d5_98 rfl ?_
      refine Own.W.bipush (pc := 99) (z := (14 : Int32)) d5_99 (by decide) ?_
      refine Own.W.bipush (pc := 101) (z := (32 : Int32)) d5_101 (by decide) ?_
      refine Own.W.castore (pc := 103) d5_103 (by decide) (i := 14) (by decide) (by simp) (u := .int 32) (by decide) (vs' := [.int 110, .int 111, .int 32, .int 115, .int 117, .int 99, .int 104, .int 32, .int 112, .int 104, .int 97, .int 115, .int 101, .int 58, .int 32, .int 0]) rfl Own.Upd.head ?_
      refine Own.W.dup (pc := 104) d5_104 rfl ?_
      refine Own.W.bipush (pc := 105) (z := (15 : Int32)) d5_105 (by decide) ?_
      refine Own.W.iloadN (pc := 107) d5_107 rfl ?_
      refine Own.W.castore (pc := 108) d5_108 (by decide) (i := 15) (by decide) (by simp) (u := .int a) (congrArg Value.int (Own.nar16 ha)) (vs' := [.int 110, .int 111, .int 32, .int 115, .int 117, .int 99, .int 104, .int 32, .int 112, .int 104, .int 97, .int 115, .int 101, .int 58, .int 32, .int a]) rfl Own.Upd.head ?_
      refine Own.W.perm ?_ (List.Perm.swap _ _ _)
      refine Own.W.callI (pc := 109) (ct_strT G hw hC hV o12 o18 [110, 111, 32, 115, 117, 99, 104, 32, 112, 104, 97, 115, 101, 58, 32, a] 16 (by simp) (by simp) (by decide) (own_hP (fun z hz => own_h3 ha hb hb z (by cases List.mem_singleton.mp hz; exact List.Mem.head _))) (Own.AVin.mem (List.Mem.head _))) d5_109 rfl (hw _ (List.mem_of_getElem? (i := 9) rfl)) (hw _ (List.mem_of_getElem? (i := 10) rfl)) (hw _ (List.mem_of_getElem? (i := 7) rfl)) (hw _ (List.mem_of_getElem? (i := 11) rfl)) (by decide) pd_84933738 rfl rfl (Nat.le_of_ble_eq_true rfl) (Nat.le_of_ble_eq_true rfl) (Nat.le_of_ble_eq_true rfl) (by first | exact Nat.le_of_ble_eq_true rfl | (simp; done) | (simp; omega)) ?_
      rintro _ _ _ ⟨b_, J, rfl, rfl, rfl⟩
      refine Own.W.frz Own.Frz.head ?_
      refine Own.W.frz own_frzJ ?_
      refine Own.W.aret (pc := 112) d5_112 rfl rfl rfl ?_ (Nat.le_of_ble_eq_true rfl) (Nat.le_of_ble_eq_true rfl)
      exact ⟨_, rfl, by rw [show own_P ++ own_cs n a b c = [110, 111, 32, 115, 117, 99, 104, 32, 112, 104, 97, 115, 101, 58, 32, a] from by rw [show own_cs n a b c = [a] from by unfold own_cs; rw [if_neg h1, if_pos h9]]; rfl]; exact ⟨b_, _, _, own_memJ, (by repeat (first | exact Own.FAt.head | apply Own.FAt.tail)), (by repeat (first | exact Own.FAt.head | apply Own.FAt.tail)), List.Mem.head _⟩, fun e he => own_subJ e (List.Mem.tail _ he), hA.sub fun e he => own_subJ e (List.Mem.tail _ he)⟩
  · intro h1
    refine Own.W.ldcG (pc := 4) (n := 60) (vs := (Own.txb "no such phase: ").map Value.int) hnw d5_4 (hw _ (List.mem_of_getElem? (i := 30) rfl)) wS hhl44 hcw (hA.g _) ⟨by decide +kernel, Own.txb_map _⟩ (by decide +kernel) (by decide) (Nat.le_of_ble_eq_true rfl) (Nat.le_of_ble_eq_true rfl) ?_
    intro a4 b4
    refine Own.W.aret (pc := 6) d5_6 rfl rfl rfl ?_ (Nat.le_of_ble_eq_true rfl) (Nat.le_of_ble_eq_true rfl)
    exact ⟨_, rfl, by rw [show own_cs n a b c = [] from by unfold own_cs; rw [if_pos h1], List.append_nil]; exact own_ofF own_P_lat own_P_by (Own.StrF.lit (List.Mem.head _) (List.Mem.tail _ (List.Mem.head _))), (Own.Sub.cons (Own.Sub.cons (Own.Sub.refl _))), hA.lit⟩
theorem d6_0 : decode prog_2_method_9_code 0 = .ok (.new 43, 3) := by decide +kernel
theorem d6_3 : decode prog_2_method_9_code 3 = .ok (.dup, 1) := by decide +kernel
theorem d6_4 : decode prog_2_method_9_code 4 = .ok (.new 45, 3) := by decide +kernel
theorem d6_7 : decode prog_2_method_9_code 7 = .ok (.dup, 1) := by decide +kernel
theorem d6_8 : decode prog_2_method_9_code 8 = .ok (.invokespecial 47, 3) := by decide +kernel
theorem d6_11 : decode prog_2_method_9_code 11 = .ok (.ldc 228, 2) := by decide +kernel
theorem d6_13 : decode prog_2_method_9_code 13 = .ok (.invokevirtual 50, 3) := by decide +kernel
theorem pd_35207773 : parseMethodDescriptor "(Ljava/lang/String;)Ljava/lang/StringBuilder;" = some ⟨[(.object "java/lang/String")], some (.object "java/lang/StringBuilder")⟩ := by decide +kernel
theorem d6_16 : decode prog_2_method_9_code 16 = .ok (.aload_n 0, 1) := by decide +kernel
theorem d6_17 : decode prog_2_method_9_code 17 = .ok (.invokevirtual 50, 3) := by decide +kernel
theorem d6_20 : decode prog_2_method_9_code 20 = .ok (.invokevirtual 56, 3) := by decide +kernel
theorem pd_47462102 : parseMethodDescriptor "()Ljava/lang/String;" = some ⟨[], some (.object "java/lang/String")⟩ := by decide +kernel
theorem d6_23 : decode prog_2_method_9_code 23 = .ok (.invokespecial 60, 3) := by decide +kernel
theorem d6_26 : decode prog_2_method_9_code 26 = .ok (.areturn, 1) := by decide +kernel
theorem pn_89109856 : plainFor (⟨"com/example/vanth/vanth/PhaseGraph", "noSuchPhase", "(Ljava/lang/String;)Ljava/lang/IllegalArgumentException;"⟩ : MethodName) = true := by first | exact plainFor_of_name (by first | (simp [plainName, overriddenIn]; done) | decide +kernel) | decide +kernel
set_option maxRecDepth 65536 in
set_option maxHeartbeats 4000000 in
theorem ct_nsp (G : Own.Gx) (hw : ∀ d ∈ tables_1, d.before G.a0 G.Z = true) (hC : Own.CSt G) (hF : ∃ f : Value, Sta G.Z G.Z.heap "jdk/internal/util/Preconditions" "SIOOBE_FORMATTER" "Ljava/util/function/BiFunction;" f ∧ f.isRef = true) (hV : U16s G) (hnw : G.nw = false) (wS : ∀ a ∈ Bundle.stringAtoms, a.before G.a0 G.Z = true) (hcw : Jvm.Lit.compactW.before G.a0 G.Z = true) (hhp228 : Jvm.Lit.constHeld G.Z "com/example/vanth/vanth/PhaseGraph" 228) (hst : G.l.stackTraces = true) (hMK : G.Z.vm.MethodsKnown) (hFK : G.Z.vm.FramesKnown G.Z.frames) (vU vN : Value) (hU : Sta G.Z G.Z.heap "java/lang/Throwable" "UNASSIGNED_STACK" "[Ljava/lang/StackTraceElement;" vU) (rU : vU.isRef = true) (nU : vU ≠ .null) (hN : Sta G.Z G.Z.heap "java/lang/Throwable" "SUPPRESSED_SENTINEL" "Ljava/util/List;" vN) (rN : vN.isRef = true) {As : List Own.Ent} {Li : List Own.LitE} (ph : Addr) (cs : List Int32) (hcs : cs.length ≤ 3) (sp : StrT As ph cs) (hA : Own.LA As Li) :
    Own.Ct G [] (⟨"com/example/vanth/vanth/PhaseGraph", "noSuchPhase", "(Ljava/lang/String;)Ljava/lang/IllegalArgumentException;"⟩ : MethodName) prog_2_method_9_code 1 (some (.object "java/lang/IllegalArgumentException")) ({ frames := 10, cells := 16, slots := 3300, locals := 145 } : Room) [.ref ph] As Li (fun v A L => ∃ e m A0, v = some (.ref e) ∧ A = (e, true, Own.obj "java/lang/IllegalArgumentException" own_ia_F [.ref m, .ref e]) :: A0 ∧ StrT A0 m (own_P ++ cs) ∧ Own.Stay As A0) := by
  refine Own.Ct.intro pn_89109856 (Ls := [.val (.ref ph)]) rfl rfl ?_
  intro K
  have q : Own.Sub As As := Own.Sub.refl _
  have l1 : (Own.txb "no such phase: ").length = 15 := by decide +kernel
  refine Own.W.new (pc := 0) (hw _ (List.mem_of_getElem? (i := 35) rfl)) (hw _ (List.mem_of_getElem? (i := 36) rfl)) (hw _ (List.mem_of_getElem? (i := 37) rfl)) d6_0 (LF_java_lang_IllegalArgumentException G hw) (vs := [.null, .null, .null, .null, .null, .int 0]) (by decide) (Nat.le_of_ble_eq_true rfl) (Nat.le_of_ble_eq_true rfl) ?_
  intro o0
  refine Own.W.dup (pc := 3) d6_3 rfl ?_
  replace sp := sp.sub (Own.Sub.cons (e := (o0, true, Own.obj "java/lang/IllegalArgumentException" F_java_lang_IllegalArgumentException [.null, .null, .null, .null, .null, .int 0])) (Own.Sub.refl _))
  replace hA := hA.cons1 (e := (o0, true, Own.obj "java/lang/IllegalArgumentException" F_java_lang_IllegalArgumentException [.null, .null, .null, .null, .null, .int 0]))
  replace q : Own.Sub ((o0, true, Own.obj "java/lang/IllegalArgumentException" F_java_lang_IllegalArgumentException [.null, .null, .null, .null, .null, .int 0]) :: As) ((o0, true, Own.obj "java/lang/IllegalArgumentException" F_java_lang_IllegalArgumentException [.null, .null, .null, .null, .null, .int 0]) :: As) := Own.Sub.refl _
  refine Own.W.new (pc := 4) (hw _ (List.mem_of_getElem? (i := 38) rfl)) (hw _ (List.mem_of_getElem? (i := 39) rfl)) (hw _ (List.mem_of_getElem? (i := 40) rfl)) d6_4 (LF_java_lang_StringBuilder G hw) (vs := [.null, .int 0, .int 0, .int 0]) (by decide) (Nat.le_of_ble_eq_true rfl) (Nat.le_of_ble_eq_true rfl) ?_
  intro o4
  refine Own.W.dup (pc := 7) d6_7 rfl ?_
  refine Own.W.callI (pc := 8) (ct_sbi G hw hC o4) d6_8 rfl (hw _ (List.mem_of_getElem? (i := 41) rfl)) (hw _ (List.mem_of_getElem? (i := 42) rfl)) (hw _ (List.mem_of_getElem? (i := 40) rfl)) (hw _ (List.mem_of_getElem? (i := 43) rfl)) (by decide) pd_93421996 rfl rfl (Nat.le_of_ble_eq_true rfl) (Nat.le_of_ble_eq_true rfl) (Nat.le_of_ble_eq_true rfl) (Nat.le_of_ble_eq_true rfl) ?_
  rintro _ _ _ ⟨b8, rfl, rfl, rfl⟩
  obtain ⟨X0, hX0⟩ : ∃ Y, Y = ([] : List Int32) := ⟨_, rfl⟩
  rw [← hX0]
  have hl0 : X0.length = 0 := by rw [hX0]; rfl
  refine Own.W.ldcG (pc := 11) (n := 60) (vs := (Own.txb "no such phase: ").map Value.int) hnw d6_11 (hw _ (List.mem_of_getElem? (i := 56) rfl)) wS hhp228 hcw (hA.cons1.cons1.g _) ⟨by decide +kernel, Own.txb_map _⟩ (by decide +kernel) (by decide) (Nat.le_of_ble_eq_true rfl) (Nat.le_of_ble_eq_true rfl) ?_
  intro a11 b11
  refine Own.W.perm ?_ Own.perm22
  replace sp := sp.sub (own_sl _ a11 b11 "no such phase: ")
  replace q := q.trans (own_sl _ a11 b11 "no such phase: ")
  replace hA := hA.lit (a := a11) (b := b11) (own := "com/example/vanth/vanth/PhaseGraph") (idx := 228) (text := "no such phase: ")
  refine Own.W.callV (pc := 13) (ct_app G hw hC o4 b8 X0 16 (by omega) (by omega) a11 (Own.txb "no such phase: ") (Own.StrF.lit (List.Mem.head _) (List.Mem.tail _ (List.Mem.head _))) 16 (by omega) (own_gb (by omega) (by omega)) (by decide)) d6_13 (C := "java/lang/StringBuilder") (Own.Is.mem (by repeat (first | exact List.Mem.head _ | assumption | exact List.mem_append_right _ (List.Mem.head _) | apply List.Mem.tail))) (hw _ (List.mem_of_getElem? (i := 57) rfl)) (hw _ (List.mem_of_getElem? (i := 58) rfl)) (Own.nf_sel (hw _ (List.mem_of_getElem? (i := 60) rfl))) (hw _ (List.mem_of_getElem? (i := 60) rfl)) (hw _ (List.mem_of_getElem? (i := 59) rfl)) (hw _ (List.mem_of_getElem? (i := 40) rfl)) (hw _ (List.mem_of_getElem? (i := 61) rfl)) (by decide) pd_35207773 rfl rfl (Nat.le_of_ble_eq_true rfl) (Nat.le_of_ble_eq_true rfl) (Nat.le_of_ble_eq_true rfl) (by first | exact Nat.le_of_ble_eq_true rfl | (simp; done) | (simp; omega)) ?_
  rintro _ _ _ ⟨b_1, A_1, rfl, rfl, hs_1, rfl⟩
  obtain ⟨X1, hX1⟩ : ∃ Y, Y = X0 ++ (Own.txb "no such phase: ") := ⟨_, rfl⟩
  obtain ⟨c1, hc1⟩ : ∃ d, d = Own.grow 16 (X0.length + (Own.txb "no such phase: ").length) := ⟨_, rfl⟩
  rw [← hX1, ← hc1]
  have hl1 : X1.length = X0.length + (Own.txb "no such phase: ").length := by rw [hX1, List.length_append]
  have hb1 : X1.length ≤ c1 ∧ 16 ≤ c1 ∧ c1 ≤ 16 := by
    by_cases hq : X0.length + (Own.txb "no such phase: ").length ≤ 16
    · rw [hc1, Own.grow_le hq]; omega
    · rw [hc1, Own.grow_gt hq]; omega
  replace sp := sp.sub hs_1
  replace hA := hA.sub hs_1
  replace q := q.trans hs_1
  refine Own.W.aloadN (pc := 16) d6_16 rfl rfl ?_
  by_cases hl : own_lat cs
  · have spl := sp.lat hl
    have hly : (own_by cs).length = cs.length := by simp
    refine Own.W.callV (pc := 17) (ct_app G hw hC o4 b_1 X1 c1 (by omega) (by omega) ph (own_by cs) spl 34 (by omega) (own_gb (by omega) (by omega)) (by decide)) d6_17 (C := "java/lang/StringBuilder") (Own.Is.mem (by repeat (first | exact List.Mem.head _ | assumption | exact List.mem_append_right _ (List.Mem.head _) | apply List.Mem.tail))) (hw _ (List.mem_of_getElem? (i := 57) rfl)) (hw _ (List.mem_of_getElem? (i := 58) rfl)) (Own.nf_sel (hw _ (List.mem_of_getElem? (i := 60) rfl))) (hw _ (List.mem_of_getElem? (i := 60) rfl)) (hw _ (List.mem_of_getElem? (i := 59) rfl)) (hw _ (List.mem_of_getElem? (i := 40) rfl)) (hw _ (List.mem_of_getElem? (i := 61) rfl)) (by decide) pd_35207773 rfl rfl (Nat.le_of_ble_eq_true rfl) (Nat.le_of_ble_eq_true rfl) (Nat.le_of_ble_eq_true rfl) (by first | exact Nat.le_of_ble_eq_true rfl | (simp; done) | (simp; omega)) ?_
    rintro _ _ _ ⟨b_2, A_2, rfl, rfl, hs_2, rfl⟩
    obtain ⟨X2, hX2⟩ : ∃ Y, Y = X1 ++ (own_by cs) := ⟨_, rfl⟩
    obtain ⟨c2, hc2⟩ : ∃ d, d = Own.grow c1 (X1.length + (own_by cs).length) := ⟨_, rfl⟩
    rw [← hX2, ← hc2]
    have hl2 : X2.length = X1.length + (own_by cs).length := by rw [hX2, List.length_append]
    have hb2 : X2.length ≤ c2 ∧ 16 ≤ c2 ∧ c2 ≤ 34 := by
      by_cases hq : X1.length + (own_by cs).length ≤ c1
      · rw [hc2, Own.grow_le hq]; omega
      · rw [hc2, Own.grow_gt hq]; omega
    replace sp := sp.sub hs_2
    replace hA := hA.sub hs_2
    replace q := q.trans hs_2
    refine Own.W.callV (pc := 20) (ct_tos G hw hC o4 b_2 X2 c2 (by omega) (by omega) (by omega) 34 (by omega) (by decide)) d6_20 (C := "java/lang/StringBuilder") (Own.Is.mem (by repeat (first | exact List.Mem.head _ | assumption | exact List.mem_append_right _ (List.Mem.head _) | apply List.Mem.tail))) (hw _ (List.mem_of_getElem? (i := 105) rfl)) (hw _ (List.mem_of_getElem? (i := 106) rfl)) (Own.nf_sel (hw _ (List.mem_of_getElem? (i := 108) rfl))) (hw _ (List.mem_of_getElem? (i := 108) rfl)) (hw _ (List.mem_of_getElem? (i := 107) rfl)) (hw _ (List.mem_of_getElem? (i := 40) rfl)) (hw _ (List.mem_of_getElem? (i := 109) rfl)) (by decide) pd_47462102 rfl rfl (Nat.le_of_ble_eq_true rfl) (Nat.le_of_ble_eq_true rfl) (Nat.le_of_ble_eq_true rfl) (by first | exact Nat.le_of_ble_eq_true rfl | (simp; done) | (simp; omega)) ?_
    rintro _ At_20 _ ⟨m, rfl, sm, ht_20, rfl⟩
    replace sp := sp.sub ht_20
    replace hA := hA.sub ht_20
    replace q := q.trans ht_20
    have sT : StrT _ m (own_P ++ cs) := own_ofF ((own_lat_app own_P_lat).mpr hl) (by rw [own_by_app, own_P_by, hX2, hX1, hX0]; simp) sm
    obtain ⟨p1, p2, hpp⟩ := List.append_of_mem (q _ (List.Mem.head _))
    rw [hpp]
    refine Own.W.perm ?_ List.perm_middle
    have sT2 := sT.stay (own_front hpp rfl)
    have q2 : Own.Stay As (p1 ++ p2) := fun e he hw => own_front hpp rfl e (q e (List.Mem.tail _ he)) hw
    refine Own.W.callI (pc := 23) (ct_iae G hw hnw hst hMK hFK vU vN hU rU nU hN rN o0 m) d6_23 rfl (hw _ (List.mem_of_getElem? (i := 150) rfl)) (hw _ (List.mem_of_getElem? (i := 151) rfl)) (hw _ (List.mem_of_getElem? (i := 37) rfl)) (hw _ (List.mem_of_getElem? (i := 152) rfl)) (by decide) pd_62450860 rfl rfl (Nat.le_of_ble_eq_true rfl) (Nat.le_of_ble_eq_true rfl) (Nat.le_of_ble_eq_true rfl) (Nat.le_of_ble_eq_true rfl) ?_
    rintro _ _ _ ⟨rfl, rfl, rfl⟩
    refine Own.W.aret (pc := 26) d6_26 rfl rfl rfl ?_ (Nat.le_of_ble_eq_true rfl) (Nat.le_of_ble_eq_true rfl)
    exact ⟨_, m, _, rfl, rfl, sT2, q2⟩
  · refine Own.W.callV (pc := 17) (ct_apW G hw hC hF hV o4 b_1 X1 c1 (by omega) (by omega) ph (Own.u16 cs) (sp.wide hl) cs.length (Own.u16_len _) 34 (by omega) (own_gb (by omega) (by omega)) (by decide)) d6_17 (C := "java/lang/StringBuilder") (Own.Is.mem (by repeat (first | exact List.Mem.head _ | assumption | exact List.mem_append_right _ (List.Mem.head _) | apply List.Mem.tail))) (hw _ (List.mem_of_getElem? (i := 57) rfl)) (hw _ (List.mem_of_getElem? (i := 58) rfl)) (Own.nf_sel (hw _ (List.mem_of_getElem? (i := 60) rfl))) (hw _ (List.mem_of_getElem? (i := 60) rfl)) (hw _ (List.mem_of_getElem? (i := 59) rfl)) (hw _ (List.mem_of_getElem? (i := 40) rfl)) (hw _ (List.mem_of_getElem? (i := 61) rfl)) (by decide) pd_35207773 rfl rfl (Nat.le_of_ble_eq_true rfl) (Nat.le_of_ble_eq_true rfl) (Nat.le_of_ble_eq_true rfl) (by first | exact Nat.le_of_ble_eq_true rfl | (simp; done) | (simp; omega)) ?_
    rintro _ _ _ ⟨bw, Aw, rfl, rfl, hs_w, rfl⟩
    replace sp := sp.sub hs_w
    replace hA := hA.sub hs_w
    replace q := q.trans hs_w
    obtain ⟨Y, hY⟩ : ∃ Y, Y = Own.u16 (X1.map (· &&& 255)) ++ Own.u16 cs := ⟨_, rfl⟩
    obtain ⟨cw, hcw2⟩ : ∃ d, d = Own.grow c1 (X1.length + cs.length) := ⟨_, rfl⟩
    rw [← hY, ← hcw2]
    have hlY : Y.length = 2 * (X1.length + cs.length) := by rw [hY, List.length_append, Own.u16_len, Own.u16_len, List.length_map]; omega
    have hbw : X1.length + cs.length ≤ cw ∧ cw ≤ 34 := by
      by_cases hq : X1.length + cs.length ≤ c1
      · rw [hcw2, Own.grow_le hq]; omega
      · rw [hcw2, Own.grow_gt hq]; omega
    refine Own.W.callV (pc := 20) (ct_toW G hw hC o4 bw Y (X1.length + cs.length) (2 * cw) hlY (by omega) (by omega) 68 (by omega) (by decide)) d6_20 (C := "java/lang/StringBuilder") (Own.Is.mem (by repeat (first | exact List.Mem.head _ | assumption | exact List.mem_append_right _ (List.Mem.head _) | apply List.Mem.tail))) (hw _ (List.mem_of_getElem? (i := 105) rfl)) (hw _ (List.mem_of_getElem? (i := 106) rfl)) (Own.nf_sel (hw _ (List.mem_of_getElem? (i := 108) rfl))) (hw _ (List.mem_of_getElem? (i := 108) rfl)) (hw _ (List.mem_of_getElem? (i := 107) rfl)) (hw _ (List.mem_of_getElem? (i := 40) rfl)) (hw _ (List.mem_of_getElem? (i := 109) rfl)) (by decide) pd_47462102 rfl rfl (Nat.le_of_ble_eq_true rfl) (Nat.le_of_ble_eq_true rfl) (Nat.le_of_ble_eq_true rfl) (by first | exact Nat.le_of_ble_eq_true rfl | (simp; done) | (simp; omega)) ?_
    rintro _ Aw2 _ ⟨m, rfl, sm, ht, rfl⟩
    replace sp := sp.sub ht
    replace hA := hA.sub ht
    replace q := q.trans ht
    have sT : StrT _ m (own_P ++ cs) := own_ofW (fun r => hl ((own_lat_app own_P_lat).mp r)) (by rw [hY, hX1, hX0, own_P_and, Own.u16_app]) sm
    obtain ⟨p1, p2, hpp⟩ := List.append_of_mem (q _ (List.Mem.head _))
    rw [hpp]
    refine Own.W.perm ?_ List.perm_middle
    have sT2 := sT.stay (own_front hpp rfl)
    have q2 : Own.Stay As (p1 ++ p2) := fun e he hw => own_front hpp rfl e (q e (List.Mem.tail _ he)) hw
    refine Own.W.callI (pc := 23) (ct_iae G hw hnw hst hMK hFK vU vN hU rU nU hN rN o0 m) d6_23 rfl (hw _ (List.mem_of_getElem? (i := 150) rfl)) (hw _ (List.mem_of_getElem? (i := 151) rfl)) (hw _ (List.mem_of_getElem? (i := 37) rfl)) (hw _ (List.mem_of_getElem? (i := 152) rfl)) (by decide) pd_62450860 rfl rfl (Nat.le_of_ble_eq_true rfl) (Nat.le_of_ble_eq_true rfl) (Nat.le_of_ble_eq_true rfl) (Nat.le_of_ble_eq_true rfl) ?_
    rintro _ _ _ ⟨rfl, rfl, rfl⟩
    refine Own.W.aret (pc := 26) d6_26 rfl rfl rfl ?_ (Nat.le_of_ble_eq_true rfl) (Nat.le_of_ble_eq_true rfl)
    exact ⟨_, m, _, rfl, rfl, sT2, q2⟩
set_option maxRecDepth 65536 in
set_option maxHeartbeats 4000000 in
theorem ct_nsn (G : Own.Gx) (hw : ∀ d ∈ tables_1, d.before G.a0 G.Z = true) (hC : Own.CSt G) (hF : ∃ f : Value, Sta G.Z G.Z.heap "jdk/internal/util/Preconditions" "SIOOBE_FORMATTER" "Ljava/util/function/BiFunction;" f ∧ f.isRef = true) (hV : U16s G) (hnw : G.nw = false) (wS : ∀ a ∈ Bundle.stringAtoms, a.before G.a0 G.Z = true) (hcw : Jvm.Lit.compactW.before G.a0 G.Z = true) (hhp228 : Jvm.Lit.constHeld G.Z "com/example/vanth/vanth/PhaseGraph" 228) (hst : G.l.stackTraces = true) (hMK : G.Z.vm.MethodsKnown) (hFK : G.Z.vm.FramesKnown G.Z.frames) (vU vN : Value) (hU : Sta G.Z G.Z.heap "java/lang/Throwable" "UNASSIGNED_STACK" "[Ljava/lang/StackTraceElement;" vU) (rU : vU.isRef = true) (nU : vU ≠ .null) (hN : Sta G.Z G.Z.heap "java/lang/Throwable" "SUPPRESSED_SENTINEL" "Ljava/util/List;" vN) (rN : vN.isRef = true) {As : List Own.Ent} {Li : List Own.LitE} (hA : Own.LA As Li) :
    Own.Ct G [] (⟨"com/example/vanth/vanth/PhaseGraph", "noSuchPhase", "(Ljava/lang/String;)Ljava/lang/IllegalArgumentException;"⟩ : MethodName) prog_2_method_9_code 1 (some (.object "java/lang/IllegalArgumentException")) ({ frames := 7, cells := 16, slots := 3300, locals := 105 } : Room) [.null] As Li (fun v A L => ∃ e m A0, v = some (.ref e) ∧ A = (e, true, Own.obj "java/lang/IllegalArgumentException" own_ia_F [.ref m, .ref e]) :: A0 ∧ StrT A0 m (own_P ++ own_N) ∧ Own.Stay As A0) := by
  refine Own.Ct.intro pn_89109856 (Ls := [.val (.null)]) rfl rfl ?_
  intro K
  have q : Own.Sub As As := Own.Sub.refl _
  have l1 : (Own.txb "no such phase: ").length = 15 := by decide +kernel
  refine Own.W.new (pc := 0) (hw _ (List.mem_of_getElem? (i := 35) rfl)) (hw _ (List.mem_of_getElem? (i := 36) rfl)) (hw _ (List.mem_of_getElem? (i := 37) rfl)) d6_0 (LF_java_lang_IllegalArgumentException G hw) (vs := [.null, .null, .null, .null, .null, .int 0]) (by decide) (Nat.le_of_ble_eq_true rfl) (Nat.le_of_ble_eq_true rfl) ?_
  intro o0
  refine Own.W.dup (pc := 3) d6_3 rfl ?_
  
  replace hA := hA.cons1 (e := (o0, true, Own.obj "java/lang/IllegalArgumentException" F_java_lang_IllegalArgumentException [.null, .null, .null, .null, .null, .int 0]))
  replace q : Own.Sub ((o0, true, Own.obj "java/lang/IllegalArgumentException" F_java_lang_IllegalArgumentException [.null, .null, .null, .null, .null, .int 0]) :: As) ((o0, true, Own.obj "java/lang/IllegalArgumentException" F_java_lang_IllegalArgumentException [.null, .null, .null, .null, .null, .int 0]) :: As) := Own.Sub.refl _
  refine Own.W.new (pc := 4) (hw _ (List.mem_of_getElem? (i := 38) rfl)) (hw _ (List.mem_of_getElem? (i := 39) rfl)) (hw _ (List.mem_of_getElem? (i := 40) rfl)) d6_4 (LF_java_lang_StringBuilder G hw) (vs := [.null, .int 0, .int 0, .int 0]) (by decide) (Nat.le_of_ble_eq_true rfl) (Nat.le_of_ble_eq_true rfl) ?_
  intro o4
  refine Own.W.dup (pc := 7) d6_7 rfl ?_
  refine Own.W.callI (pc := 8) (ct_sbi G hw hC o4) d6_8 rfl (hw _ (List.mem_of_getElem? (i := 41) rfl)) (hw _ (List.mem_of_getElem? (i := 42) rfl)) (hw _ (List.mem_of_getElem? (i := 40) rfl)) (hw _ (List.mem_of_getElem? (i := 43) rfl)) (by decide) pd_93421996 rfl rfl (Nat.le_of_ble_eq_true rfl) (Nat.le_of_ble_eq_true rfl) (Nat.le_of_ble_eq_true rfl) (Nat.le_of_ble_eq_true rfl) ?_
  rintro _ _ _ ⟨b8, rfl, rfl, rfl⟩
  obtain ⟨X0, hX0⟩ : ∃ Y, Y = ([] : List Int32) := ⟨_, rfl⟩
  rw [← hX0]
  have hl0 : X0.length = 0 := by rw [hX0]; rfl
  refine Own.W.ldcG (pc := 11) (n := 60) (vs := (Own.txb "no such phase: ").map Value.int) hnw d6_11 (hw _ (List.mem_of_getElem? (i := 56) rfl)) wS hhp228 hcw (hA.cons1.cons1.g _) ⟨by decide +kernel, Own.txb_map _⟩ (by decide +kernel) (by decide) (Nat.le_of_ble_eq_true rfl) (Nat.le_of_ble_eq_true rfl) ?_
  intro a11 b11
  refine Own.W.perm ?_ Own.perm22
  replace q := q.trans (own_sl _ a11 b11 "no such phase: ")
  replace hA := hA.lit (a := a11) (b := b11) (own := "com/example/vanth/vanth/PhaseGraph") (idx := 228) (text := "no such phase: ")
  refine Own.W.callV (pc := 13) (ct_app G hw hC o4 b8 X0 16 (by omega) (by omega) a11 (Own.txb "no such phase: ") (Own.StrF.lit (List.Mem.head _) (List.Mem.tail _ (List.Mem.head _))) 16 (by omega) (own_gb (by omega) (by omega)) (by decide)) d6_13 (C := "java/lang/StringBuilder") (Own.Is.mem (by repeat (first | exact List.Mem.head _ | assumption | exact List.mem_append_right _ (List.Mem.head _) | apply List.Mem.tail))) (hw _ (List.mem_of_getElem? (i := 57) rfl)) (hw _ (List.mem_of_getElem? (i := 58) rfl)) (Own.nf_sel (hw _ (List.mem_of_getElem? (i := 60) rfl))) (hw _ (List.mem_of_getElem? (i := 60) rfl)) (hw _ (List.mem_of_getElem? (i := 59) rfl)) (hw _ (List.mem_of_getElem? (i := 40) rfl)) (hw _ (List.mem_of_getElem? (i := 61) rfl)) (by decide) pd_35207773 rfl rfl (Nat.le_of_ble_eq_true rfl) (Nat.le_of_ble_eq_true rfl) (Nat.le_of_ble_eq_true rfl) (by first | exact Nat.le_of_ble_eq_true rfl | (simp; done) | (simp; omega)) ?_
  rintro _ _ _ ⟨b_1, A_1, rfl, rfl, hs_1, rfl⟩
  obtain ⟨X1, hX1⟩ : ∃ Y, Y = X0 ++ (Own.txb "no such phase: ") := ⟨_, rfl⟩
  obtain ⟨c1, hc1⟩ : ∃ d, d = Own.grow 16 (X0.length + (Own.txb "no such phase: ").length) := ⟨_, rfl⟩
  rw [← hX1, ← hc1]
  have hl1 : X1.length = X0.length + (Own.txb "no such phase: ").length := by rw [hX1, List.length_append]
  have hb1 : X1.length ≤ c1 ∧ 16 ≤ c1 ∧ c1 ≤ 16 := by
    by_cases hq : X0.length + (Own.txb "no such phase: ").length ≤ 16
    · rw [hc1, Own.grow_le hq]; omega
    · rw [hc1, Own.grow_gt hq]; omega
  replace hA := hA.sub hs_1
  replace q := q.trans hs_1
  refine Own.W.aloadN (pc := 16) d6_16 rfl rfl ?_
  refine Own.W.callV (pc := 17) (ct_apn G hw hC o4 b_1 X1 c1 (by omega) (by omega) 34 (by omega) (own_gb (by omega) (by omega)) (by decide)) d6_17 (C := "java/lang/StringBuilder") (Own.Is.mem (by repeat (first | exact List.Mem.head _ | assumption | exact List.mem_append_right _ (List.Mem.head _) | apply List.Mem.tail))) (hw _ (List.mem_of_getElem? (i := 57) rfl)) (hw _ (List.mem_of_getElem? (i := 58) rfl)) (Own.nf_sel (hw _ (List.mem_of_getElem? (i := 60) rfl))) (hw _ (List.mem_of_getElem? (i := 60) rfl)) (hw _ (List.mem_of_getElem? (i := 59) rfl)) (hw _ (List.mem_of_getElem? (i := 40) rfl)) (hw _ (List.mem_of_getElem? (i := 61) rfl)) (by decide) pd_35207773 rfl rfl (Nat.le_of_ble_eq_true rfl) (Nat.le_of_ble_eq_true rfl) (Nat.le_of_ble_eq_true rfl) (by first | exact Nat.le_of_ble_eq_true rfl | (simp; done) | (simp; omega)) ?_
  rintro _ _ _ ⟨b_2, A_2, rfl, rfl, hs_2, rfl⟩
  obtain ⟨X2, hX2⟩ : ∃ Y, Y = X1 ++ [110, 117, 108, 108] := ⟨_, rfl⟩
  obtain ⟨c2, hc2⟩ : ∃ d, d = Own.grow c1 (X1.length + 4) := ⟨_, rfl⟩
  rw [← hX2, ← hc2]
  have hl2 : X2.length = X1.length + 4 := by rw [hX2, List.length_append]; rfl
  have hb2 : X2.length ≤ c2 ∧ 16 ≤ c2 ∧ c2 ≤ 34 := by
    by_cases hq : X1.length + 4 ≤ c1
    · rw [hc2, Own.grow_le hq]; omega
    · rw [hc2, Own.grow_gt hq]; omega
  replace hA := hA.sub hs_2
  replace q := q.trans hs_2
  refine Own.W.callV (pc := 20) (ct_tos G hw hC o4 b_2 X2 c2 (by omega) (by omega) (by omega) 34 (by omega) (by decide)) d6_20 (C := "java/lang/StringBuilder") (Own.Is.mem (by repeat (first | exact List.Mem.head _ | assumption | exact List.mem_append_right _ (List.Mem.head _) | apply List.Mem.tail))) (hw _ (List.mem_of_getElem? (i := 105) rfl)) (hw _ (List.mem_of_getElem? (i := 106) rfl)) (Own.nf_sel (hw _ (List.mem_of_getElem? (i := 108) rfl))) (hw _ (List.mem_of_getElem? (i := 108) rfl)) (hw _ (List.mem_of_getElem? (i := 107) rfl)) (hw _ (List.mem_of_getElem? (i := 40) rfl)) (hw _ (List.mem_of_getElem? (i := 109) rfl)) (by decide) pd_47462102 rfl rfl (Nat.le_of_ble_eq_true rfl) (Nat.le_of_ble_eq_true rfl) (Nat.le_of_ble_eq_true rfl) (by first | exact Nat.le_of_ble_eq_true rfl | (simp; done) | (simp; omega)) ?_
  rintro _ At_20 _ ⟨m, rfl, sm, ht_20, rfl⟩
  replace hA := hA.sub ht_20
  replace q := q.trans ht_20
  have sT : StrT _ m (own_P ++ own_N) := own_ofF ((own_lat_app own_P_lat).mpr (by decide)) (by rw [own_by_app, own_P_by, own_N_by, hX2, hX1, hX0]; simp) sm
  obtain ⟨p1, p2, hpp⟩ := List.append_of_mem (q _ (List.Mem.head _))
  rw [hpp]
  refine Own.W.perm ?_ List.perm_middle
  have sT2 := sT.stay (own_front hpp rfl)
  have q2 : Own.Stay As (p1 ++ p2) := fun e he hw => own_front hpp rfl e (q e (List.Mem.tail _ he)) hw
  refine Own.W.callI (pc := 23) (ct_iae G hw hnw hst hMK hFK vU vN hU rU nU hN rN o0 m) d6_23 rfl (hw _ (List.mem_of_getElem? (i := 150) rfl)) (hw _ (List.mem_of_getElem? (i := 151) rfl)) (hw _ (List.mem_of_getElem? (i := 37) rfl)) (hw _ (List.mem_of_getElem? (i := 152) rfl)) (by decide) pd_62450860 rfl rfl (Nat.le_of_ble_eq_true rfl) (Nat.le_of_ble_eq_true rfl) (Nat.le_of_ble_eq_true rfl) (Nat.le_of_ble_eq_true rfl) ?_
  rintro _ _ _ ⟨rfl, rfl, rfl⟩
  refine Own.W.aret (pc := 26) d6_26 rfl rfl rfl ?_ (Nat.le_of_ble_eq_true rfl) (Nat.le_of_ble_eq_true rfl)
  exact ⟨_, m, _, rfl, rfl, sT2, q2⟩
def Q1 : Own.Qx := fun v _ _ => v = some (.int 1)
theorem own_null_by : own_by (own_P ++ own_N) = Own.txb "no such phase: null" := by decide +kernel
theorem own_lit2 (a b : Addr) {t : String} {As : List Own.Ent} : Own.StrF ((a, false, Own.obj "java/lang/String" Own.litF [.ref b, .int 0]) :: (b, false, Own.arr .byte ((Own.txb t).map Value.int)) :: As) a ((Own.txb t).map Value.int) := Own.StrF.lit (List.Mem.head _) (List.Mem.tail _ (List.Mem.head _))
theorem own_enc_le (cs : List Int32) : (own_enc cs).length ≤ 2 * cs.length := by
  unfold own_enc; split
  · simp; omega
  · rw [Own.u16_len]; omega
theorem own_enc_lt (cs : List Int32) (h : cs.length ≤ 20) : (own_enc cs).length < 2147483648 := by have := own_enc_le cs; omega
theorem own_PL (n a b c : Int32) : (own_P ++ own_cs n a b c).length ≤ 20 := by rw [List.length_append, own_P_len]; have := own_cs_len n a b c; omega
theorem pd_58763944 : parseMethodDescriptor "(ICCC)Ljava/lang/String;" = some ⟨[.int, .char, .char, .char], some (.object "java/lang/String")⟩ := by decide +kernel
theorem pd_17391051 : parseMethodDescriptor "(Ljava/lang/String;)Ljava/lang/IllegalArgumentException;" = some ⟨[(.object "java/lang/String")], some (.object "java/lang/IllegalArgumentException")⟩ := by decide +kernel
theorem pd_96412080 : parseMethodDescriptor "(Ljava/lang/Object;)Z" = some ⟨[(.object "java/lang/Object")], some .boolean⟩ := by decide +kernel
theorem pd_57199047 : parseMethodDescriptor "()Ljava/lang/Throwable;" = some ⟨[], some (.object "java/lang/Throwable")⟩ := by decide +kernel
theorem pn_17386369 : plainFor x = true := by first | exact plainFor_of_name (by first | (simp [plainName, overriddenIn]; done) | decide +kernel) | decide +kernel
set_option maxRecDepth 65536 in
set_option maxHeartbeats 4000000 in
theorem ct_law (G : Own.Gx) (hw : ∀ d ∈ tables_1, d.before G.a0 G.Z = true) (ws : List Jvm.Cond) (hC : Own.CSt G) (hF : ∃ f : Value, Sta G.Z G.Z.heap "jdk/internal/util/Preconditions" "SIOOBE_FORMATTER" "Ljava/util/function/BiFunction;" f ∧ f.isRef = true) (hV : U16s G) (hnw : G.nw = false) (wS : ∀ a ∈ Bundle.stringAtoms, a.before G.a0 G.Z = true) (hcw : Jvm.Lit.compactW.before G.a0 G.Z = true) (hhs7 : Jvm.Lit.constHeld G.Z "java/lang/String" 7) (hhl14 : Jvm.Lit.constHeld G.Z "com/example/vanth/vanth/PhaseGraphNoSuchPhasePinLaw" 14) (hhl44 : Jvm.Lit.constHeld G.Z "com/example/vanth/vanth/PhaseGraphNoSuchPhasePinLaw" 44) (hhp228 : Jvm.Lit.constHeld G.Z "com/example/vanth/vanth/PhaseGraph" 228) (hst : G.l.stackTraces = true) (hMK : G.Z.vm.MethodsKnown) (hFK : G.Z.vm.FramesKnown G.Z.frames) (vU vN : Value) (hU : Sta G.Z G.Z.heap "java/lang/Throwable" "UNASSIGNED_STACK" "[Ljava/lang/StackTraceElement;" vU) (rU : vU.isRef = true) (nU : vU ≠ .null) (hN : Sta G.Z G.Z.heap "java/lang/Throwable" "SUPPRESSED_SENTINEL" "Ljava/util/List;" vN) (rN : vN.isRef = true) (p0 p1 p2 p3 p4 : Int32) :
    Own.Ct G ws x code maxLocals ret room_1 [.int p0, .int p1, .int p2, .int p3, .int p4] [] [] (Q1) := by
  refine Own.Ct.intro pn_17386369 (Ls := [.val (.int p0), .val (.int p1), .val (.int p2), .val (.int p3), .val (.int p4), .unset, .unset, .unset, .unset, .unset, .unset, .unset, .unset, .unset]) (Own.args_ls rfl) rfl ?_
  intro K
  have hA0 : Own.LA [] [] := Own.LA.nil _
  refine Own.W.iloadN (pc := 0) at_0 rfl ?_
  refine Own.W.ldcI (pc := 1) (z := 65535) (hw _ (List.mem_of_getElem? (i := 0) rfl)) at_1 ?_
  refine Own.W.iand (pc := 3) at_3 rfl ?_
  refine Own.W.i2c (pc := 4) at_4 (Own.i2c_mask16 _) ?_
  refine Own.W.istore (pc := 5) (Ls' := [_, _, _, _, _, _, _, _, _, _, _, _, _, _]) at_5 rfl rfl ?_
  refine Own.W.iloadN (pc := 7) at_7 rfl ?_
  refine Own.W.ldcI (pc := 8) (z := 65535) (hw _ (List.mem_of_getElem? (i := 0) rfl)) at_8 ?_
  refine Own.W.iand (pc := 10) at_10 rfl ?_
  refine Own.W.i2c (pc := 11) at_11 (Own.i2c_mask16 _) ?_
  refine Own.W.istore (pc := 12) (Ls' := [_, _, _, _, _, _, _, _, _, _, _, _, _, _]) at_12 rfl rfl ?_
  refine Own.W.iloadN (pc := 14) at_14 rfl ?_
  refine Own.W.ldcI (pc := 15) (z := 65535) (hw _ (List.mem_of_getElem? (i := 0) rfl)) at_15 ?_
  refine Own.W.iand (pc := 17) at_17 rfl ?_
  refine Own.W.i2c (pc := 18) at_18 (Own.i2c_mask16 _) ?_
  refine Own.W.istore (pc := 19) (Ls' := [_, _, _, _, _, _, _, _, _, _, _, _, _, _]) at_19 rfl rfl ?_
  refine Own.W.iloadN (pc := 21) at_21 rfl ?_
  refine Own.W.iconst (pc := 22) (z := (3 : Int32)) at_22 (by decide) ?_
  refine Own.W.iand (pc := 23) at_23 rfl ?_
  refine Own.W.istore (pc := 24) (Ls' := [_, _, _, _, _, _, _, _, _, _, _, _, _, _]) at_24 rfl rfl ?_
  refine Own.W.iload (pc := 26) at_26 rfl ?_
  refine Own.W.iconst (pc := 28) (z := (1 : Int32)) at_28 (by decide) ?_
  refine Own.W.iand (pc := 29) at_29 rfl ?_
  refine Own.W.if_eq (pc := 30) 37 at_30 (by decide) (by decide) ?_ ?_
  · intro h30
    refine Own.W.iconst (pc := 37) (z := (0 : Int32)) at_37 (by decide) ?_
    refine Own.W.istore (pc := 38) (Ls' := [_, _, _, _, _, _, _, _, _, _, _, _, _, _]) at_38 rfl rfl ?_
    refine Own.W.iload (pc := 40) at_40 rfl ?_
    refine Own.W.if_eq (pc := 42) 49 at_42 (by decide) (by decide) ?_ (fun h42 => absurd h42 (fun q => q rfl))
    intro h42
    refine Own.W.iload (pc := 49) at_49 rfl ?_
    refine Own.W.iload (pc := 51) at_51 rfl ?_
    refine Own.W.iload (pc := 53) at_53 rfl ?_
    refine Own.W.iload (pc := 55) at_55 rfl ?_
    refine Own.W.callS (pc := 57) (ct_drw G hw hC hV hnw wS hcw hhs7 (p0 &&& 3) (p1 &&& 65535) (p2 &&& 65535) (p3 &&& 65535) (Own.mask16 _) (Own.mask16 _) (Own.mask16 _) hA0) at_57 (hw _ (List.mem_of_getElem? (i := 1) rfl)) (hw _ (List.mem_of_getElem? (i := 2) rfl)) (hw _ (List.mem_of_getElem? (i := 3) rfl)) (hw _ (List.mem_of_getElem? (i := 4) rfl)) (by decide) pd_58763944 rfl rfl (Nat.le_of_ble_eq_true rfl) (Nat.le_of_ble_eq_true rfl) (Nat.le_of_ble_eq_true rfl) (Nat.le_of_ble_eq_true rfl) ?_
    rintro _ A1 L1 ⟨ph, rfl, sp, q1, hA1⟩
    refine Own.W.astore (pc := 60) (Ls' := [_, _, _, _, _, _, _, _, _, _, _, _, _, _]) at_60 rfl rfl rfl ?_
    refine Own.W.iload (pc := 62) at_62 rfl ?_
    refine Own.W.if_eq (pc := 64) 72 at_64 (by decide) (by decide) ?_ (fun h64 => absurd h64 (fun q => q rfl))
    intro h64
    refine Own.W.iload (pc := 72) at_72 rfl ?_
    refine Own.W.iload (pc := 74) at_74 rfl ?_
    refine Own.W.iload (pc := 76) at_76 rfl ?_
    refine Own.W.iload (pc := 78) at_78 rfl ?_
    refine Own.W.callS (pc := 80) (ct_exp G hw hC hV hnw wS hcw hhs7 hhl44 (p0 &&& 3) (p1 &&& 65535) (p2 &&& 65535) (p3 &&& 65535) (Own.mask16 _) (Own.mask16 _) (Own.mask16 _) hA1) at_80 (hw _ (List.mem_of_getElem? (i := 27) rfl)) (hw _ (List.mem_of_getElem? (i := 28) rfl)) (hw _ (List.mem_of_getElem? (i := 3) rfl)) (hw _ (List.mem_of_getElem? (i := 29) rfl)) (by decide) pd_58763944 rfl rfl (Nat.le_of_ble_eq_true rfl) (Nat.le_of_ble_eq_true rfl) (Nat.le_of_ble_eq_true rfl) (Nat.le_of_ble_eq_true rfl) ?_
    rintro _ A2 L2 ⟨ex, rfl, sx, q2, hA2⟩
    replace sp := sp.sub q2
    refine Own.W.astore (pc := 83) (Ls' := [_, _, _, _, _, _, _, _, _, _, _, _, _, _]) at_83 rfl rfl rfl ?_
    refine Own.W.aload (pc := 85) at_85 rfl rfl ?_
    refine Own.W.callS (pc := 87) (ct_nsp G hw hC hF hV hnw wS hcw hhp228 hst hMK hFK vU vN hU rU nU hN rN ph _ (own_cs_len _ _ _ _) sp hA2) at_87 (hw _ (List.mem_of_getElem? (i := 31) rfl)) (hw _ (List.mem_of_getElem? (i := 32) rfl)) (hw _ (List.mem_of_getElem? (i := 33) rfl)) (hw _ (List.mem_of_getElem? (i := 34) rfl)) (by decide) pd_17391051 rfl rfl (Nat.le_of_ble_eq_true rfl) (Nat.le_of_ble_eq_true rfl) (Nat.le_of_ble_eq_true rfl) (Nat.le_of_ble_eq_true rfl) ?_
    rintro _ _ L3 ⟨e, m, A3, rfl, rfl, sm, q3⟩
    replace sx := sx.stay q3
    have sm1 : Own.StrK _ m ((own_enc (own_P ++ own_cs (p0 &&& 3) (p1 &&& 65535) (p2 &&& 65535) (p3 &&& 65535))).map Value.int) (own_cod (own_P ++ own_cs (p0 &&& 3) (p1 &&& 65535) (p2 &&& 65535) (p3 &&& 65535))) := sm
    have sx1 : Own.StrK _ ex ((own_enc (own_P ++ own_cs (p0 &&& 3) (p1 &&& 65535) (p2 &&& 65535) (p3 &&& 65535))).map Value.int) (own_cod (own_P ++ own_cs (p0 &&& 3) (p1 &&& 65535) (p2 &&& 65535) (p3 &&& 65535))) := sx
    refine Own.W.astore (pc := 90) (Ls' := [_, _, _, _, _, _, _, _, _, _, _, _, _, _]) at_90 rfl rfl rfl ?_
    refine Own.W.aload (pc := 92) at_92 rfl rfl ?_
    refine Own.W.nonnullY (pc := 94) 99 at_94 (by decide) (by decide) ?_
    refine Own.W.aload (pc := 99) at_99 rfl rfl ?_
    refine Own.W.callU (pc := 101) (ct_gms G hw e m (List.Mem.head _)) at_101 (C := "java/lang/IllegalArgumentException") (Own.Is.mem (List.Mem.head _)) (hw _ (List.mem_of_getElem? (i := 208) rfl)) (hw _ (List.mem_of_getElem? (i := 209) rfl)) (hw _ (List.mem_of_getElem? (i := 210) rfl)) (by decide) (hw _ (List.mem_of_getElem? (i := 212) rfl)) (hw _ (List.mem_of_getElem? (i := 211) rfl)) (hw _ (List.mem_of_getElem? (i := 169) rfl)) (hw _ (List.mem_of_getElem? (i := 213) rfl)) pd_47462102 rfl rfl (Nat.le_of_ble_eq_true rfl) (Nat.le_of_ble_eq_true rfl) (Nat.le_of_ble_eq_true rfl) (Nat.le_of_ble_eq_true rfl) ?_
    rintro _ _ _ ⟨rfl, rfl, rfl⟩
    refine Own.W.astore (pc := 104) (Ls' := [_, _, _, _, _, _, _, _, _, _, _, _, _, _]) at_104 rfl rfl rfl ?_
    refine Own.W.aload (pc := 106) at_106 rfl rfl ?_
    refine Own.W.nullN (pc := 108) at_108 ?_
    refine Own.W.aload (pc := 111) at_111 rfl rfl ?_
    refine Own.W.aload (pc := 113) at_113 rfl rfl ?_
    refine Own.W.callV (pc := 115) (ct_seq G hw hC (own_cod (own_P ++ own_cs (p0 &&& 3) (p1 &&& 65535) (p2 &&& 65535) (p3 &&& 65535))) m ex (own_enc (own_P ++ own_cs (p0 &&& 3) (p1 &&& 65535) (p2 &&& 65535) (p3 &&& 65535))) (own_enc (own_P ++ own_cs (p0 &&& 3) (p1 &&& 65535) (p2 &&& 65535) (p3 &&& 65535))) (own_enc_lt _ (own_PL _ _ _ _)) (own_enc_lt _ (own_PL _ _ _ _)) (sm1.sub (Own.Sub.cons (Own.Sub.refl _))).str (sx1.sub (Own.Sub.cons (Own.Sub.refl _))).str) at_115 (C := "java/lang/String") ((sm1.sub (Own.Sub.cons (Own.Sub.refl _))).is) (hw _ (List.mem_of_getElem? (i := 214) rfl)) (hw _ (List.mem_of_getElem? (i := 215) rfl)) (Own.nf_sel (hw _ (List.mem_of_getElem? (i := 217) rfl))) (hw _ (List.mem_of_getElem? (i := 217) rfl)) (hw _ (List.mem_of_getElem? (i := 216) rfl)) (hw _ (List.mem_of_getElem? (i := 7) rfl)) (hw _ (List.mem_of_getElem? (i := 218) rfl)) (by decide) pd_96412080 rfl rfl (Nat.le_of_ble_eq_true rfl) (Nat.le_of_ble_eq_true rfl) (Nat.le_of_ble_eq_true rfl) (Nat.le_of_ble_eq_true rfl) ?_
    rintro _ _ _ ⟨rfl, rfl, rfl⟩
    rw [Own.eqI_self]
    refine Own.W.if_eq (pc := 118) 133 at_118 (by decide) (by decide) (fun h118 => absurd h118 (by decide)) ?_
    intro h118
    refine Own.W.aload (pc := 121) at_121 rfl rfl ?_
    refine Own.W.gcause (pc := 123) hnw at_123 (List.Mem.head _) (by repeat (first | exact Own.FAt.head | apply Own.FAt.tail)) (hw _ (List.mem_of_getElem? (i := 224) rfl)) (hw _ (List.mem_of_getElem? (i := 225) rfl)) (hw _ (List.mem_of_getElem? (i := 226) rfl)) (hw _ (List.mem_of_getElem? (i := 228) rfl)) (hw _ (List.mem_of_getElem? (i := 227) rfl)) (hw _ (List.mem_of_getElem? (i := 229) rfl)) (hw _ (List.mem_of_getElem? (i := 169) rfl)) (hw _ (List.mem_of_getElem? (i := 172) rfl)) pd_57199047 (Nat.le_of_ble_eq_true rfl) (Nat.le_of_ble_eq_true rfl) (Nat.le_of_ble_eq_true rfl) (Nat.le_of_ble_eq_true rfl) ?_
    refine Own.W.nonnullN (pc := 126) at_126 ?_
    refine Own.W.iconst (pc := 129) (z := (1 : Int32)) at_129 (by decide) ?_
    refine Own.W.goto (pc := 130) 134 at_130 (by decide) (by decide) ?_
    refine Own.W.iret (pc := 134) at_134 rfl (by simp) (by first | rfl | decide) ?_ (Nat.le_of_ble_eq_true rfl) (Nat.le_of_ble_eq_true rfl)
    exact rfl
  · intro h30
    refine Own.W.iconst (pc := 33) (z := (1 : Int32)) at_33 (by decide) ?_
    refine Own.W.goto (pc := 34) 38 at_34 (by decide) (by decide) ?_
    refine Own.W.istore (pc := 38) (Ls' := [_, _, _, _, _, _, _, _, _, _, _, _, _, _]) at_38 rfl rfl ?_
    refine Own.W.iload (pc := 40) at_40 rfl ?_
    refine Own.W.if_eq (pc := 42) 49 at_42 (by decide) (by decide) (fun h42 => absurd h42 (by decide)) ?_
    intro h42
    refine Own.W.aconstNull (pc := 45) at_45 ?_
    refine Own.W.goto (pc := 46) 60 at_46 (by decide) (by decide) ?_
    refine Own.W.astore (pc := 60) (Ls' := [_, _, _, _, _, _, _, _, _, _, _, _, _, _]) at_60 rfl rfl rfl ?_
    refine Own.W.iload (pc := 62) at_62 rfl ?_
    refine Own.W.if_eq (pc := 64) 72 at_64 (by decide) (by decide) (fun h64 => absurd h64 (by decide)) ?_
    intro h64
    refine Own.W.ldcG (pc := 67) (n := 76) (vs := (Own.txb "no such phase: null").map Value.int) hnw at_67 (hw _ (List.mem_of_getElem? (i := 230) rfl)) wS hhl14 hcw (hA0.g _) ⟨by decide +kernel, Own.txb_map _⟩ (by decide +kernel) (by decide) (Nat.le_of_ble_eq_true rfl) (Nat.le_of_ble_eq_true rfl) ?_
    intro a67 b67
    have hA2 := hA0.lit (a := a67) (b := b67) (own := "com/example/vanth/vanth/PhaseGraphNoSuchPhasePinLaw") (idx := 14) (text := "no such phase: null")
    have sx : Own.StrF _ a67 ((Own.txb "no such phase: null").map Value.int) := own_lit2 (As := []) a67 b67
    refine Own.W.goto (pc := 69) 83 at_69 (by decide) (by decide) ?_
    refine Own.W.astore (pc := 83) (Ls' := [_, _, _, _, _, _, _, _, _, _, _, _, _, _]) at_83 rfl rfl rfl ?_
    refine Own.W.aload (pc := 85) at_85 rfl rfl ?_
    refine Own.W.callS (pc := 87) (ct_nsn G hw hC hF hV hnw wS hcw hhp228 hst hMK hFK vU vN hU rU nU hN rN hA2) at_87 (hw _ (List.mem_of_getElem? (i := 31) rfl)) (hw _ (List.mem_of_getElem? (i := 32) rfl)) (hw _ (List.mem_of_getElem? (i := 33) rfl)) (hw _ (List.mem_of_getElem? (i := 34) rfl)) (by decide) pd_17391051 rfl rfl (Nat.le_of_ble_eq_true rfl) (Nat.le_of_ble_eq_true rfl) (Nat.le_of_ble_eq_true rfl) (Nat.le_of_ble_eq_true rfl) ?_
    rintro _ _ L3 ⟨e, m, A3, rfl, rfl, sm, q3⟩
    replace sx := sx.stay q3
    have sm1 : Own.StrK _ m ((own_enc (own_P ++ own_N)).map Value.int) (own_cod (own_P ++ own_N)) := sm
    have sx1 : Own.StrK _ a67 ((own_enc (own_P ++ own_N)).map Value.int) (own_cod (own_P ++ own_N)) := own_ofF (by decide) own_null_by sx
    refine Own.W.astore (pc := 90) (Ls' := [_, _, _, _, _, _, _, _, _, _, _, _, _, _]) at_90 rfl rfl rfl ?_
    refine Own.W.aload (pc := 92) at_92 rfl rfl ?_
    refine Own.W.nonnullY (pc := 94) 99 at_94 (by decide) (by decide) ?_
    refine Own.W.aload (pc := 99) at_99 rfl rfl ?_
    refine Own.W.callU (pc := 101) (ct_gms G hw e m (List.Mem.head _)) at_101 (C := "java/lang/IllegalArgumentException") (Own.Is.mem (List.Mem.head _)) (hw _ (List.mem_of_getElem? (i := 208) rfl)) (hw _ (List.mem_of_getElem? (i := 209) rfl)) (hw _ (List.mem_of_getElem? (i := 210) rfl)) (by decide) (hw _ (List.mem_of_getElem? (i := 212) rfl)) (hw _ (List.mem_of_getElem? (i := 211) rfl)) (hw _ (List.mem_of_getElem? (i := 169) rfl)) (hw _ (List.mem_of_getElem? (i := 213) rfl)) pd_47462102 rfl rfl (Nat.le_of_ble_eq_true rfl) (Nat.le_of_ble_eq_true rfl) (Nat.le_of_ble_eq_true rfl) (Nat.le_of_ble_eq_true rfl) ?_
    rintro _ _ _ ⟨rfl, rfl, rfl⟩
    refine Own.W.astore (pc := 104) (Ls' := [_, _, _, _, _, _, _, _, _, _, _, _, _, _]) at_104 rfl rfl rfl ?_
    refine Own.W.aload (pc := 106) at_106 rfl rfl ?_
    refine Own.W.nullN (pc := 108) at_108 ?_
    refine Own.W.aload (pc := 111) at_111 rfl rfl ?_
    refine Own.W.aload (pc := 113) at_113 rfl rfl ?_
    refine Own.W.callV (pc := 115) (ct_seq G hw hC (own_cod (own_P ++ own_N)) m a67 (own_enc (own_P ++ own_N)) (own_enc (own_P ++ own_N)) (own_enc_lt _ (by decide)) (own_enc_lt _ (by decide)) (sm1.sub (Own.Sub.cons (Own.Sub.refl _))).str (sx1.sub (Own.Sub.cons (Own.Sub.refl _))).str) at_115 (C := "java/lang/String") ((sm1.sub (Own.Sub.cons (Own.Sub.refl _))).is) (hw _ (List.mem_of_getElem? (i := 214) rfl)) (hw _ (List.mem_of_getElem? (i := 215) rfl)) (Own.nf_sel (hw _ (List.mem_of_getElem? (i := 217) rfl))) (hw _ (List.mem_of_getElem? (i := 217) rfl)) (hw _ (List.mem_of_getElem? (i := 216) rfl)) (hw _ (List.mem_of_getElem? (i := 7) rfl)) (hw _ (List.mem_of_getElem? (i := 218) rfl)) (by decide) pd_96412080 rfl rfl (Nat.le_of_ble_eq_true rfl) (Nat.le_of_ble_eq_true rfl) (Nat.le_of_ble_eq_true rfl) (Nat.le_of_ble_eq_true rfl) ?_
    rintro _ _ _ ⟨rfl, rfl, rfl⟩
    rw [Own.eqI_self]
    refine Own.W.if_eq (pc := 118) 133 at_118 (by decide) (by decide) (fun h118 => absurd h118 (by decide)) ?_
    intro h118
    refine Own.W.aload (pc := 121) at_121 rfl rfl ?_
    refine Own.W.gcause (pc := 123) hnw at_123 (List.Mem.head _) (by repeat (first | exact Own.FAt.head | apply Own.FAt.tail)) (hw _ (List.mem_of_getElem? (i := 224) rfl)) (hw _ (List.mem_of_getElem? (i := 225) rfl)) (hw _ (List.mem_of_getElem? (i := 226) rfl)) (hw _ (List.mem_of_getElem? (i := 228) rfl)) (hw _ (List.mem_of_getElem? (i := 227) rfl)) (hw _ (List.mem_of_getElem? (i := 229) rfl)) (hw _ (List.mem_of_getElem? (i := 169) rfl)) (hw _ (List.mem_of_getElem? (i := 172) rfl)) pd_57199047 (Nat.le_of_ble_eq_true rfl) (Nat.le_of_ble_eq_true rfl) (Nat.le_of_ble_eq_true rfl) (Nat.le_of_ble_eq_true rfl) ?_
    refine Own.W.nonnullN (pc := 126) at_126 ?_
    refine Own.W.iconst (pc := 129) (z := (1 : Int32)) at_129 (by decide) ?_
    refine Own.W.goto (pc := 130) 134 at_130 (by decide) (by decide) ?_
    refine Own.W.iret (pc := 134) at_134 rfl (by simp) (by first | rfl | decide) ?_ (Nat.le_of_ble_eq_true rfl) (Nat.le_of_ble_eq_true rfl)
    exact rfl
theorem own_sti {args : Array Value} {s : State} {t : Term} {k : Int32} (h : (Jvm.Cond.eq t (Jvm.Term.int k)).value args s none s [] = some true) : t.eval args s none [] s = some (.int k) := by
  obtain ⟨u, w, h1, h2, q1, q2⟩ := cmp_v (Or.inl h)
  cases (Term.int_eval k).symm.trans h2
  obtain ⟨z, rfl⟩ := q2
  have e := gotT (Cond.eq_ints h1 (Term.int_eval k)) h
  subst e
  exact h1
set_option maxRecDepth 65536 in
set_option maxHeartbeats 4000000 in
theorem comes_1 {Post : Tables → Env → Array Value → State → Outcome → State → Prop} (hpost : ∀ tb e args s v u, (limb_1_1.after args s (.returned v) u = true ∧ limb_1_2.after args s (.returned v) u = true) → Jvm.D.FramedW s (.returned v) u (Jvm.fieldLocs frame_1_writes args s ++ Jvm.arrayLocs frame_1_arrays args s ++ Jvm.staticLocs frame_1_statics s) 48 10240 → Post tb e args s (.returned v) u) :
    ArmFor flags0 classFile x code maxLocals ret World_1 tables_1 room_1 Calls_1 rest_1 Pre_1 Post := by
  intro l hfl _ _ p e ha hc hk s m args below hf hA hF happ hP
  obtain ⟨hcalls, hrest, hpre⟩ := hP
  obtain ⟨-, -, -, hnamed, -, -, -, hat⟩ := (Spec.applies_iff hf).mp happ
  obtain ⟨hg, hn⟩ := and_e (Cond.before_iff.mp (show (Jvm.Cond.and given_1 narrow_1).before args s = true from hpre))
  obtain ⟨hcnt, hgr⟩ := and_e hg
  obtain ⟨ha0, hgr⟩ := and_e hgr
  obtain ⟨ha1, hgr⟩ := and_e hgr
  obtain ⟨ha2, hgr⟩ := and_e hgr
  obtain ⟨ha3, hgr⟩ := and_e hgr
  have ha4 := hgr
  obtain ⟨w0, w1, w2, w3, w4, rfl⟩ : ∃ w0 w1 w2 w3 w4 : Value, args = #[w0, w1, w2, w3, w4] := by
    have hs : args.size = 5 := by simpa [Cond.value, given_1] using hcnt
    obtain ⟨L⟩ := args
    match L, hs with
    | [w0, w1, w2, w3, w4], _ => exact ⟨w0, w1, w2, w3, w4, rfl⟩
  have hw := fun d (hd : d ∈ tables_1) => atoms_spec (ws := Jvm.Cond.code x code maxLocals ret :: tables_1) hat d (List.mem_cons_of_mem _ hd)
  obtain ⟨hsets, hown0⟩ := atoms_of _ (rest_1_c_eq ▸ (show rest_1_c.before _ s = true from hrest))
  obtain ⟨i0, ei0⟩ := is_v ha0
  obtain rfl : w0 = (.int i0) := Option.some.inj ei0
  obtain ⟨i1, ei1⟩ := is_v ha1
  obtain rfl : w1 = (.int i1) := Option.some.inj ei1
  obtain ⟨i2, ei2⟩ := is_v ha2
  obtain rfl : w2 = (.int i2) := Option.some.inj ei2
  obtain ⟨i3, ei3⟩ := is_v ha3
  obtain rfl : w3 = (.int i3) := Option.some.inj ei3
  obtain ⟨i4, ei4⟩ := is_v ha4
  obtain rfl : w4 = (.int i4) := Option.some.inj ei4
  have wS : ∀ a ∈ Bundle.stringAtoms, a.before #[.int i0, .int i1, .int i2, .int i3, .int i4] s = true := fun a ha => by
    simp only [Bundle.stringAtoms, Bundle.sN, List.mem_cons, List.not_mem_nil, or_false] at ha
    rcases ha with rfl | rfl | rfl | rfl | rfl | rfl | rfl
    · exact (hw _ (List.mem_of_getElem? (i := 7) rfl))
    · exact (hw _ (List.mem_of_getElem? (i := 6) rfl))
    · exact (hw _ (List.mem_of_getElem? (i := 20) rfl))
    · exact (hw _ (List.mem_of_getElem? (i := 21) rfl))
    · exact (hw _ (List.mem_of_getElem? (i := 22) rfl))
    · exact (hw _ (List.mem_of_getElem? (i := 23) rfl))
    · exact (hw _ (List.mem_of_getElem? (i := 24) rfl))
  have hcw : Jvm.Lit.compactW.before #[.int i0, .int i1, .int i2, .int i3, .int i4] s = true := hsets _ (List.mem_of_getElem? (i := 2) rfl)
  obtain ⟨cz, ecz⟩ := is_v (Cond.before_iff.mp (hsets _ (List.mem_of_getElem? (i := 1) rfl)))
  have hC : Own.CSt (l, s, #[.int i0, .int i1, .int i2, .int i3, .int i4], false) := ⟨cz, Sta.start ecz (Or.inl (hsets _ (List.mem_of_getElem? (i := 0) rfl))), gotF (Cond.eq_ints ecz (Term.int_eval (0))) (not_v (Cond.before_iff.mp (hsets _ (List.mem_of_getElem? (i := 2) rfl))))⟩
  have hk0 := fun q (hq : q ∈ consts_1) => hcalls.2.2.1 q hq
  have hF : ∃ f : Value, Sta s s.heap "jdk/internal/util/Preconditions" "SIOOBE_FORMATTER" "Ljava/util/function/BiFunction;" f ∧ f.isRef = true := by
    obtain ⟨f, hf, hr⟩ := Cond.isRef_spec (hsets _ (List.mem_of_getElem? (i := 8) rfl))
    exact ⟨f, Sta.start hf (Or.inl (hsets _ (List.mem_of_getElem? (i := 7) rfl))), hr⟩
  have hV : U16s (l, s, #[.int i0, .int i1, .int i2, .int i3, .int i4], false) := ⟨Sta.start (own_sti (Cond.before_iff.mp (hsets _ (List.mem_of_getElem? (i := 32) rfl)))) (Or.inl (hsets _ (List.mem_of_getElem? (i := 31) rfl))), Sta.start (own_sti (Cond.before_iff.mp (hsets _ (List.mem_of_getElem? (i := 35) rfl)))) (Or.inl (hsets _ (List.mem_of_getElem? (i := 34) rfl))), Sta.start (own_sti (Cond.before_iff.mp (hsets _ (List.mem_of_getElem? (i := 38) rfl)))) (Or.inl (hsets _ (List.mem_of_getElem? (i := 37) rfl)))⟩
  obtain ⟨aU, evU⟩ := arr_v (Cond.before_iff.mp (hsets _ (List.mem_of_getElem? (i := 17) rfl)))
  have hU : Sta s s.heap "java/lang/Throwable" "UNASSIGNED_STACK" "[Ljava/lang/StackTraceElement;" (.ref aU) := Sta.start evU (Or.inl (hsets _ (List.mem_of_getElem? (i := 15) rfl)))
  obtain ⟨aN, evN⟩ := exa_v (Cond.before_iff.mp (hsets _ (List.mem_of_getElem? (i := 22) rfl)))
  have hN : Sta s s.heap "java/lang/Throwable" "SUPPRESSED_SENTINEL" "Ljava/util/List;" (.ref aN) := Sta.start evN (Or.inl (hsets _ (List.mem_of_getElem? (i := 20) rfl)))
  obtain ⟨n, o, g1, g2, g3, v, L, A, I, rfl, rfl, -, -, N, hq, hnw⟩ := ct_law (l, s, #[.int i0, .int i1, .int i2, .int i3, .int i4], false) hw tables_1 hC hF hV rfl wS hcw (hk0 _ (List.mem_of_getElem? (i := 3) rfl)) (hk0 _ (List.mem_of_getElem? (i := 1) rfl)) (hk0 _ (List.mem_of_getElem? (i := 2) rfl)) (hk0 _ (List.mem_of_getElem? (i := 0) rfl)) (own_st hfl) (own_mk_ hcalls.2.1) (own_fk_ hcalls.1) (.ref aU) (.ref aN) hU rfl (fun q => nomatch q) hN rfl i0 i1 i2 i3 i4 p e ha hc hk s m _ below hf ((Spec.applies_iff_loose hf).mp happ).1 ⟨rfl, State.Warmed39.refl s, Own.Inv.start _ _ _ _, Own.LI.start s⟩ (Own.FK.start hf)
  exact ⟨n, _, g1, g2, g3, hpost _ _ _ _ _ _ ⟨Cond.after_iff.mpr rfl, Cond.after_iff.mpr (eq_i res_at (Term.int_eval (1)) rfl)⟩ ⟨⟨_, rfl⟩, hq.2.1, hq.2.2.1, (hq.2.2.2.sift fun y hy => Or.inr (N y hy)).mono (by decide) (by decide)⟩⟩
theorem main_1_1 : Claimed_1_1 := comes_1 fun _ _ _ _ _ _ h hF => ⟨h.1, hF⟩
theorem main_1_2 : Claimed_1_2 := comes_1 fun _ _ _ _ _ _ h hF => ⟨h.2, hF⟩
end Jvm.Pilot.@@N@@
namespace Jvm.Pilot.@@N@@
open Jvm Jvm.ClassFile Sem Op Lib Jvm.Free Jvm.Stand Jvm.Pilot.@@N@@.Jvm.D
/-! MADE BY PROGRAM (witnessworld.py) out of the Statement's table words and the real class files: 43 classes; the members and pool entries that the words name. The judged class is class 1, her method 1. -/
namespace start1
open Jvm.ClassFile
def u (s : String) : CpInfo := .utf8 (stringToUtf16 s)
/-- a pool by its gaps: so many unusable entries, then the entry; so many at the end -/
def gap : Nat → List CpInfo → List CpInfo
  | 0, r => r
  | n + 1, r => .unusable :: gap n r
def poolList (es : List (Nat × CpInfo)) (last : Nat) : List CpInfo := es.foldr (fun e r => gap e.1 (e.2 :: r)) (gap last [])
def pool (es : List (Nat × CpInfo)) (last : Nat) : Array CpInfo := ⟨poolList es last⟩
def fileOf (pool : Array CpInfo) (this : Nat) (attrs : Array Attribute := #[]) (ms : Array MethodInfo := #[]) (fl : Nat := 33) (sup : Nat := 0) (ifs : Array Nat := #[]) (fds : Array FieldInfo := #[]) : ClassFile where
  minorVersion := 0
  majorVersion := 65
  constantPool := pool
  accessFlags := fl
  thisClass := this
  superClass := sup
  interfaces := ifs
  fields := fds
  methods := ms
  attributes := attrs
def plain (name : String) (sup : Option ClassId) : Class where
  name := name
  kind := .ordinary
  loader := none
  accessFlags := 33
  super := sup
  interfaces := #[]
  cf := none
  fields := #[]
  methods := #[]
  instanceTypes := #[]
  staticTypes := #[]
  resolved := #[]
  callSites := []
  init := .initialized
  statics := none
  mirror := none

def pool0 : Array CpInfo := pool [(5, u "<init>"), (0, u "()V"), (1, .class_ 10), (1, u "java/lang/Object"), (85, u "clone"), (0, u "()Ljava/lang/Object;")] 26

def k0c0 : Code := { maxStack := 0, maxLocals := 1, code := object_method_1_code, exceptionTable := #[], attributes := #[] }
def k0m0 : Method := { name := "<init>", desc := "()V", sig := { parameters := [], returnType := none }, accessFlags := 1, code := some k0c0 }
def k0m1 : Method := { name := "clone", desc := "()Ljava/lang/Object;", sig := { parameters := [], returnType := some (.object "java/lang/Object") }, accessFlags := 260, code := none }
/-- java/lang/Object -/
def k0 : Class := { plain "java/lang/Object" none with
  accessFlags := 33
  interfaces := #[]
  cf := some (fileOf pool0 8 #[] #[{ accessFlags := 1, nameIndex := 5, descriptorIndex := 6, attributes := #[] }, { accessFlags := 260, nameIndex := 96, descriptorIndex := 97, attributes := #[] }] 33 0 #[] #[])
  fields := #[]
  methods := #[k0m0, k0m1]
  instanceTypes := #[]
  staticTypes := #[]
  resolved := Array.replicate 124 none
  statics := none }

def pool1 : Array CpInfo := pool [(2, .class_ 4), (1, u "java/lang/Object"), (0, u "<init>"), (0, u "()V"), (0, .integer 65535), (0, .methodref 9 10), (0, .class_ 11), (0, .nameAndType 12 13), (0, u "com/example/vanth/vanth/PhaseGraphNoSuchPhasePinLaw"), (0, u "drawn"), (0, u "(ICCC)Ljava/lang/String;"), (0, .string 15), (0, u "no such phase: null"), (0, .methodref 9 17), (0, .nameAndType 18 13), (0, u "expected"), (0, .methodref 20 21), (0, .class_ 22), (0, .nameAndType 23 24), (0, u "com/example/vanth/vanth/PhaseGraph"), (0, u "noSuchPhase"), (0, u "(Ljava/lang/String;)Ljava/lang/IllegalArgumentException;"), (0, .methodref 26 27), (0, .class_ 28), (0, .nameAndType 29 30), (0, u "java/lang/IllegalArgumentException"), (0, u "getMessage"), (0, u "()Ljava/lang/String;"), (0, .methodref 32 33), (0, .class_ 34), (0, .nameAndType 35 36), (0, u "java/lang/String"), (0, u "equals"), (0, u "(Ljava/lang/Object;)Z"), (0, .methodref 26 38), (0, .nameAndType 39 40), (0, u "getCause"), (0, u "()Ljava/lang/Throwable;"), (0, .methodref 32 42), (0, .nameAndType 5 43), (0, u "([C)V"), (0, .string 45), (0, u "no such phase: "), (2, u "law"), (0, u "(IIIII)Z")] 3

def k1m0 : Method := { name := "<init>", desc := "()V", sig := { parameters := [], returnType := none }, accessFlags := 2, code := none }
def k1c1 : Code := { maxStack := 4, maxLocals := 14, code := code, exceptionTable := #[], attributes := #[] }
def k1m1 : Method := { name := "law", desc := "(IIIII)Z", sig := { parameters := [.int, .int, .int, .int, .int], returnType := some .boolean }, accessFlags := 9, code := some k1c1 }
def k1c2 : Code := { maxStack := 6, maxLocals := 4, code := method_3_code, exceptionTable := #[], attributes := #[] }
def k1m2 : Method := { name := "drawn", desc := "(ICCC)Ljava/lang/String;", sig := { parameters := [.int, .char, .char, .char], returnType := some (.object "java/lang/String") }, accessFlags := 10, code := some k1c2 }
def k1c3 : Code := { maxStack := 6, maxLocals := 4, code := method_4_code, exceptionTable := #[], attributes := #[] }
def k1m3 : Method := { name := "expected", desc := "(ICCC)Ljava/lang/String;", sig := { parameters := [.int, .char, .char, .char], returnType := some (.object "java/lang/String") }, accessFlags := 10, code := some k1c3 }
/-- com/example/vanth/vanth/PhaseGraphNoSuchPhasePinLaw -/
def k1 : Class := { plain "com/example/vanth/vanth/PhaseGraphNoSuchPhasePinLaw" (some 0) with
  accessFlags := 49
  interfaces := #[]
  cf := some (fileOf pool1 9 #[] #[{ accessFlags := 2, nameIndex := 5, descriptorIndex := 6, attributes := #[] }, { accessFlags := 9, nameIndex := 48, descriptorIndex := 49, attributes := #[] }, { accessFlags := 10, nameIndex := 12, descriptorIndex := 13, attributes := #[] }, { accessFlags := 10, nameIndex := 18, descriptorIndex := 13, attributes := #[] }] 49 2 #[] #[])
  fields := #[]
  methods := #[k1m0, k1m1, k1m2, k1m3]
  instanceTypes := #[]
  staticTypes := #[]
  resolved := Array.replicate 53 none
  statics := none }

def pool2 : Array CpInfo := pool [(1, .class_ 2), (0, u "java/io/Serializable"), (0, .class_ 4), (0, u "java/lang/Object")] 2

/-- java/io/Serializable -/
def k2 : Class := { plain "java/io/Serializable" (some 0) with
  accessFlags := 1537
  interfaces := #[]
  cf := some (fileOf pool2 1 #[] #[] 1537 3 #[] #[])
  fields := #[]
  methods := #[]
  instanceTypes := #[]
  staticTypes := #[]
  resolved := Array.replicate 7 none
  statics := none }

def pool3 : Array CpInfo := pool [(1, .class_ 2), (0, u "java/lang/Comparable"), (0, .class_ 4), (0, u "java/lang/Object")] 7

/-- java/lang/Comparable -/
def k3 : Class := { plain "java/lang/Comparable" (some 0) with
  accessFlags := 1537
  interfaces := #[]
  cf := some (fileOf pool3 1 #[] #[] 1537 3 #[] #[])
  fields := #[]
  methods := #[]
  instanceTypes := #[]
  staticTypes := #[]
  resolved := Array.replicate 12 none
  statics := none }

def pool4 : Array CpInfo := pool [(2, .class_ 4), (1, u "java/lang/CharSequence"), (42, .class_ 48), (0, u "java/lang/CharSequence$1CodePointIterator"), (10, .class_ 60), (0, u "java/lang/CharSequence$1CharIterator"), (5, .class_ 67), (0, u "java/lang/Object")] 63

/-- java/lang/CharSequence -/
def k4 : Class := { plain "java/lang/CharSequence" (some 0) with
  accessFlags := 1537
  interfaces := #[]
  cf := some (fileOf pool4 2 #[.nestMembers #[47, 59]] #[] 1537 66 #[] #[])
  fields := #[]
  methods := #[]
  instanceTypes := #[]
  staticTypes := #[]
  resolved := Array.replicate 131 none
  statics := none }

def pool5 : Array CpInfo := pool [(1, .class_ 2), (0, u "java/lang/constant/Constable"), (0, .class_ 4), (0, u "java/lang/Object")] 6

/-- java/lang/constant/Constable -/
def k5 : Class := { plain "java/lang/constant/Constable" (some 0) with
  accessFlags := 1537
  interfaces := #[]
  cf := some (fileOf pool5 1 #[] #[] 1537 3 #[] #[])
  fields := #[]
  methods := #[]
  instanceTypes := #[]
  staticTypes := #[]
  resolved := Array.replicate 11 none
  statics := none }

def pool6 : Array CpInfo := pool [(1, .class_ 2), (0, u "java/lang/constant/ConstantDesc"), (0, .class_ 4), (0, u "java/lang/Object")] 32

/-- java/lang/constant/ConstantDesc -/
def k6 : Class := { plain "java/lang/constant/ConstantDesc" (some 0) with
  accessFlags := 1537
  interfaces := #[]
  cf := some (fileOf pool6 1 #[] #[] 1537 3 #[] #[])
  fields := #[]
  methods := #[]
  instanceTypes := #[]
  staticTypes := #[]
  resolved := Array.replicate 37 none
  statics := none }

def pool7 : Array CpInfo := pool [(1, .methodref 2 3), (0, .class_ 4), (0, .nameAndType 5 6), (0, u "java/lang/Object"), (0, u "<init>"), (0, u "()V"), (0, .string 8), (0, u ""), (0, .fieldref 10 11), (0, .class_ 12), (0, .nameAndType 13 14), (0, u "java/lang/String"), (0, u "value"), (0, u "[B"), (0, .fieldref 10 16), (0, .nameAndType 17 18), (0, u "coder"), (0, u "B"), (2, u "hash"), (0, u "I"), (2, u "hashIsZero"), (0, u "Z"), (0, .methodref 10 28), (0, .nameAndType 5 29), (0, u "([CIILjava/lang/Void;)V"), (6, u "checkBoundsOffCount"), (0, u "(III)I"), (0, .fieldref 10 39), (0, .nameAndType 40 26), (0, u "COMPACT_STRINGS"), (1, .class_ 44), (1, u "java/lang/StringUTF16"), (0, u "compress"), (1, .methodref 42 48), (0, .nameAndType 49 50), (0, u "coderFromArrayLen"), (0, u "([BI)B"), (3, .methodref 55 56), (0, .class_ 57), (0, .nameAndType 58 59), (0, u "java/util/Arrays"), (0, u "copyOfRange"), (0, u "([BII)[B"), (47, .class_ 109), (1, u "java/lang/StringLatin1"), (32, u "()Z"), (34, .methodref 42 178), (0, .nameAndType 45 179), (0, u "([CII)[B"), (13, .class_ 195), (1, u "java/lang/System"), (16, .methodref 193 213), (0, .nameAndType 214 215), (0, u "arraycopy"), (0, u "(Ljava/lang/Object;ILjava/lang/Object;II)V"), (118, u "()I"), (0, .methodref 10 336), (0, .nameAndType 17 337), (0, u "()B"), (2, u "()[B"), (148, .methodref 10 490), (0, .nameAndType 5 491), (0, u "(Ljava/lang/AbstractStringBuilder;Ljava/lang/Void;)V"), (1, .nameAndType 494 142), (0, u "isLatin1"), (11, .nameAndType 507 334), (0, u "length"), (24, u "getBytes"), (8, .methodref 107 542), (0, .nameAndType 543 544), (0, u "equals"), (0, u "([B[B)Z"), (4, .methodref 550 506), (0, .class_ 551), (0, u "java/lang/AbstractStringBuilder"), (0, .methodref 550 553), (0, .nameAndType 554 340), (0, u "getValue"), (18, u "(Ljava/lang/Object;)Z"), (1, .class_ 576), (0, u "java/lang/CharSequence"), (22, u "CASE_INSENSITIVE_ORDER"), (0, u "Ljava/util/Comparator;"), (220, u "([BIB)V"), (188, u "([C)V"), (36, .methodref 550 493), (0, .fieldref 550 1049), (0, .nameAndType 1050 26), (0, u "maybeLatin1"), (2, .fieldref 1054 1055), (0, .class_ 1056), (0, .nameAndType 1057 1058), (0, u "jdk/internal/util/Preconditions"), (0, u "SIOOBE_FORMATTER"), (0, u "Ljava/util/function/BiFunction;"), (5, u "(IIILjava/util/function/BiFunction;)I"), (0, .methodref 1054 1066), (0, .nameAndType 1067 1064), (0, u "checkFromIndexSize"), (33, u "serialPersistentFields"), (0, u "[Ljava/io/ObjectStreamField;"), (0, .class_ 1104), (0, u "java/lang/String$CaseInsensitiveComparator"), (1, .class_ 1107), (0, u "java/io/Serializable"), (0, .class_ 1109), (0, u "java/lang/Comparable"), (0, .class_ 1111), (0, u "java/lang/constant/Constable"), (0, .class_ 1113), (0, u "java/lang/constant/ConstantDesc"), (2, u "serialVersionUID"), (0, u "J"), (3, u "REPL"), (0, u "C"), (2, u "LATIN1"), (1, u "UTF16"), (105, u "(Ljava/lang/StringBuilder;)V")] 217

def k7m0 : Method := { name := "<init>", desc := "()V", sig := { parameters := [], returnType := none }, accessFlags := 1, code := none }
def k7c1 : Code := { maxStack := 5, maxLocals := 2, code := jdk_42_method_3_code, exceptionTable := #[], attributes := #[] }
def k7m1 : Method := { name := "<init>", desc := "([C)V", sig := { parameters := [(.array .char)], returnType := none }, accessFlags := 1, code := some k7c1 }
def k7c2 : Code := { maxStack := 3, maxLocals := 2, code := jdk_42_method_53_code, exceptionTable := #[], attributes := #[] }
def k7m2 : Method := { name := "<init>", desc := "(Ljava/lang/StringBuilder;)V", sig := { parameters := [(.object "java/lang/StringBuilder")], returnType := none }, accessFlags := 1, code := some k7c2 }
def k7c3 : Code := { maxStack := 2, maxLocals := 1, code := jdk_42_method_54_code, exceptionTable := #[], attributes := #[] }
def k7m3 : Method := { name := "length", desc := "()I", sig := { parameters := [], returnType := some .int }, accessFlags := 1, code := some k7c3 }
def k7c4 : Code := { maxStack := 2, maxLocals := 3, code := jdk_42_method_66_code, exceptionTable := #[], attributes := #[] }
def k7m4 : Method := { name := "equals", desc := "(Ljava/lang/Object;)Z", sig := { parameters := [(.object "java/lang/Object")], returnType := some .boolean }, accessFlags := 1, code := some k7c4 }
def k7c5 : Code := { maxStack := 5, maxLocals := 4, code := jdk_42_method_147_code, exceptionTable := #[], attributes := #[] }
def k7m5 : Method := { name := "getBytes", desc := "([BIB)V", sig := { parameters := [(.array .byte), .int, .byte], returnType := none }, accessFlags := 0, code := some k7c5 }
def k7c6 : Code := { maxStack := 4, maxLocals := 6, code := jdk_42_method_149_code, exceptionTable := #[], attributes := #[] }
def k7m6 : Method := { name := "<init>", desc := "([CIILjava/lang/Void;)V", sig := { parameters := [(.array .char), .int, .int, (.object "java/lang/Void")], returnType := none }, accessFlags := 2, code := some k7c6 }
def k7c7 : Code := { maxStack := 5, maxLocals := 5, code := jdk_42_method_150_code, exceptionTable := #[], attributes := #[] }
def k7m7 : Method := { name := "<init>", desc := "(Ljava/lang/AbstractStringBuilder;Ljava/lang/Void;)V", sig := { parameters := [(.object "java/lang/AbstractStringBuilder"), (.object "java/lang/Void")], returnType := none }, accessFlags := 0, code := some k7c7 }
def k7c8 : Code := { maxStack := 1, maxLocals := 1, code := jdk_42_method_152_code, exceptionTable := #[], attributes := #[] }
def k7m8 : Method := { name := "coder", desc := "()B", sig := { parameters := [], returnType := some .byte }, accessFlags := 0, code := some k7c8 }
def k7c9 : Code := { maxStack := 4, maxLocals := 3, code := jdk_42_method_157_code, exceptionTable := #[], attributes := #[] }
def k7m9 : Method := { name := "checkBoundsOffCount", desc := "(III)I", sig := { parameters := [.int, .int, .int], returnType := some .int }, accessFlags := 8, code := some k7c9 }
/-- java/lang/String -/
def k7 : Class := { plain "java/lang/String" (some 0) with
  accessFlags := 49
  interfaces := #[2, 3, 4, 5, 6]
  cf := some (fileOf pool7 10 #[.nestMembers #[1103]] #[{ accessFlags := 1, nameIndex := 5, descriptorIndex := 6, attributes := #[] }, { accessFlags := 1, nameIndex := 5, descriptorIndex := 1010, attributes := #[] }, { accessFlags := 1, nameIndex := 5, descriptorIndex := 1233, attributes := #[] }, { accessFlags := 1, nameIndex := 507, descriptorIndex := 334, attributes := #[] }, { accessFlags := 1, nameIndex := 543, descriptorIndex := 573, attributes := #[] }, { accessFlags := 0, nameIndex := 532, descriptorIndex := 821, attributes := #[] }, { accessFlags := 2, nameIndex := 5, descriptorIndex := 29, attributes := #[] }, { accessFlags := 0, nameIndex := 5, descriptorIndex := 491, attributes := #[] }, { accessFlags := 0, nameIndex := 17, descriptorIndex := 337, attributes := #[] }, { accessFlags := 8, nameIndex := 36, descriptorIndex := 37, attributes := #[] }] 49 2 #[1106, 1108, 575, 1110, 1112] #[{ accessFlags := 18, nameIndex := 13, descriptorIndex := 14, attributes := #[] }, { accessFlags := 18, nameIndex := 17, descriptorIndex := 18, attributes := #[] }, { accessFlags := 2, nameIndex := 21, descriptorIndex := 22, attributes := #[] }, { accessFlags := 2, nameIndex := 25, descriptorIndex := 26, attributes := #[] }, { accessFlags := 26, nameIndex := 1116, descriptorIndex := 1117, attributes := #[] }, { accessFlags := 24, nameIndex := 40, descriptorIndex := 26, attributes := #[] }, { accessFlags := 26, nameIndex := 1101, descriptorIndex := 1102, attributes := #[] }, { accessFlags := 26, nameIndex := 1121, descriptorIndex := 1122, attributes := #[] }, { accessFlags := 25, nameIndex := 599, descriptorIndex := 600, attributes := #[] }, { accessFlags := 24, nameIndex := 1125, descriptorIndex := 18, attributes := #[] }, { accessFlags := 24, nameIndex := 1127, descriptorIndex := 18, attributes := #[] }])
  fields := #[{ name := "value", type := (.array .byte), accessFlags := 18, slot := 0, constantValue := 0 }, { name := "coder", type := .byte, accessFlags := 18, slot := 1, constantValue := 0 }, { name := "hash", type := .int, accessFlags := 2, slot := 2, constantValue := 0 }, { name := "hashIsZero", type := .boolean, accessFlags := 2, slot := 3, constantValue := 0 }, { name := "serialVersionUID", type := .long, accessFlags := 26, slot := 0, constantValue := 0 }, { name := "COMPACT_STRINGS", type := .boolean, accessFlags := 24, slot := 1, constantValue := 0 }, { name := "serialPersistentFields", type := (.array (.object "java/io/ObjectStreamField")), accessFlags := 26, slot := 2, constantValue := 0 }, { name := "REPL", type := .char, accessFlags := 26, slot := 3, constantValue := 0 }, { name := "CASE_INSENSITIVE_ORDER", type := (.object "java/util/Comparator"), accessFlags := 25, slot := 4, constantValue := 0 }, { name := "LATIN1", type := .byte, accessFlags := 24, slot := 5, constantValue := 0 }, { name := "UTF16", type := .byte, accessFlags := 24, slot := 6, constantValue := 0 }]
  methods := #[k7m0, k7m1, k7m2, k7m3, k7m4, k7m5, k7m6, k7m7, k7m8, k7m9]
  instanceTypes := #[(.array .byte), .byte, .int, .boolean]
  staticTypes := #[.long, .boolean, (.array (.object "java/io/ObjectStreamField")), .char, (.object "java/util/Comparator"), .byte, .byte]
  resolved := Array.replicate 1451 none
  statics := some 0 }

def pool8 : Array CpInfo := pool [(2, .class_ 4), (0, .nameAndType 5 6), (0, u "java/lang/Object"), (0, u "<init>"), (0, u "()V"), (4, .class_ 13), (1, u "com/example/vanth/vanth/PhaseGraph"), (0, u "dependencies"), (0, u "Ljava/util/Map;"), (5, u "disabled"), (0, u "Ljava/util/Set;"), (5, u "timeouts"), (14, .class_ 44), (0, u "java/lang/IllegalArgumentException"), (0, .class_ 46), (0, u "java/lang/StringBuilder"), (0, .methodref 45 3), (2, .methodref 45 51), (0, .nameAndType 52 53), (0, u "append"), (0, u "(Ljava/lang/String;)Ljava/lang/StringBuilder;"), (2, .methodref 45 57), (0, .nameAndType 58 59), (0, u "toString"), (0, u "()Ljava/lang/String;"), (0, .methodref 43 61), (0, .nameAndType 5 62), (0, u "(Ljava/lang/String;)V"), (91, .class_ 155), (0, u "com/example/vanth/vanth/PhaseGraph$Phase"), (70, u "noSuchPhase"), (0, u "(Ljava/lang/String;)Ljava/lang/IllegalArgumentException;"), (0, .string 229), (0, u "no such phase: ")] 53

def k8m0 : Method := { name := "<init>", desc := "()V", sig := { parameters := [], returnType := none }, accessFlags := 0, code := none }
def k8c1 : Code := { maxStack := 4, maxLocals := 1, code := prog_2_method_9_code, exceptionTable := #[], attributes := #[] }
def k8m1 : Method := { name := "noSuchPhase", desc := "(Ljava/lang/String;)Ljava/lang/IllegalArgumentException;", sig := { parameters := [(.object "java/lang/String")], returnType := some (.object "java/lang/IllegalArgumentException") }, accessFlags := 8, code := some k8c1 }
/-- com/example/vanth/vanth/PhaseGraph -/
def k8 : Class := { plain "com/example/vanth/vanth/PhaseGraph" (some 0) with
  accessFlags := 48
  interfaces := #[]
  cf := some (fileOf pool8 11 #[.nestMembers #[154]] #[{ accessFlags := 0, nameIndex := 5, descriptorIndex := 6, attributes := #[] }, { accessFlags := 8, nameIndex := 226, descriptorIndex := 227, attributes := #[] }] 48 2 #[] #[{ accessFlags := 18, nameIndex := 14, descriptorIndex := 15, attributes := #[] }, { accessFlags := 18, nameIndex := 21, descriptorIndex := 22, attributes := #[] }, { accessFlags := 18, nameIndex := 28, descriptorIndex := 15, attributes := #[] }])
  fields := #[{ name := "dependencies", type := (.object "java/util/Map"), accessFlags := 18, slot := 0, constantValue := 0 }, { name := "disabled", type := (.object "java/util/Set"), accessFlags := 18, slot := 1, constantValue := 0 }, { name := "timeouts", type := (.object "java/util/Map"), accessFlags := 18, slot := 2, constantValue := 0 }]
  methods := #[k8m0, k8m1]
  instanceTypes := #[(.object "java/util/Map"), (.object "java/util/Set"), (.object "java/util/Map")]
  staticTypes := #[]
  resolved := Array.replicate 283 none
  statics := none }

def pool9 : Array CpInfo := pool [(1, .methodref 2 3), (0, .class_ 4), (0, .nameAndType 5 6), (0, u "java/lang/Object"), (0, u "<init>"), (0, u "()V"), (0, .fieldref 8 9), (0, .class_ 10), (0, .nameAndType 11 12), (0, u "java/lang/Throwable"), (0, u "cause"), (0, u "Ljava/lang/Throwable;"), (0, .fieldref 8 14), (0, .nameAndType 15 16), (0, u "UNASSIGNED_STACK"), (0, u "[Ljava/lang/StackTraceElement;"), (0, .fieldref 8 18), (0, .nameAndType 19 16), (0, u "stackTrace"), (0, .fieldref 8 21), (0, .nameAndType 22 23), (0, u "SUPPRESSED_SENTINEL"), (0, u "Ljava/util/List;"), (0, .fieldref 8 25), (0, .nameAndType 26 23), (0, u "suppressedExceptions"), (0, .methodref 8 28), (0, .nameAndType 29 30), (0, u "fillInStackTrace"), (0, u "()Ljava/lang/Throwable;"), (0, .fieldref 8 32), (0, .nameAndType 33 34), (0, u "detailMessage"), (0, u "Ljava/lang/String;"), (3, u "()Ljava/lang/String;"), (2, u "getMessage"), (51, .class_ 94), (0, u "java/lang/Throwable$WrappedPrintStream"), (6, .class_ 103), (1, u "java/lang/Throwable$PrintStreamOrWriter"), (54, u "getCause"), (6, u "$assertionsDisabled"), (0, u "Z"), (26, .class_ 194), (0, u "java/lang/Throwable$WrappedPrintWriter"), (3, .fieldref 8 199), (0, .nameAndType 200 201), (0, u "backtrace"), (0, u "Ljava/lang/Object;"), (0, .methodref 8 203), (0, .nameAndType 29 204), (0, u "(I)Ljava/lang/Throwable;"), (6, u "depth"), (0, u "I"), (10, u "(Ljava/lang/String;)V"), (45, .class_ 271), (1, u "java/lang/Throwable$SentinelHolder"), (32, u "EMPTY_THROWABLE_ARRAY"), (0, u "[Ljava/lang/Throwable;"), (12, .class_ 319), (0, u "java/io/Serializable"), (0, u "serialVersionUID"), (0, u "J"), (5, u "NULL_CAUSE_MESSAGE"), (0, u "SELF_SUPPRESSION_MESSAGE"), (0, u "CAUSE_CAPTION"), (0, u "SUPPRESSED_CAPTION")] 73

def k9c0 : Code := { maxStack := 2, maxLocals := 1, code := jdk_78_method_1_code, exceptionTable := #[], attributes := #[] }
def k9m0 : Method := { name := "<init>", desc := "()V", sig := { parameters := [], returnType := none }, accessFlags := 1, code := some k9c0 }
def k9c1 : Code := { maxStack := 2, maxLocals := 2, code := jdk_78_method_2_code, exceptionTable := #[], attributes := #[] }
def k9m1 : Method := { name := "<init>", desc := "(Ljava/lang/String;)V", sig := { parameters := [(.object "java/lang/String")], returnType := none }, accessFlags := 1, code := some k9c1 }
def k9c2 : Code := { maxStack := 1, maxLocals := 1, code := jdk_78_method_6_code, exceptionTable := #[], attributes := #[] }
def k9m2 : Method := { name := "getMessage", desc := "()Ljava/lang/String;", sig := { parameters := [], returnType := some (.object "java/lang/String") }, accessFlags := 1, code := some k9c2 }
def k9c3 : Code := { maxStack := 2, maxLocals := 1, code := ⟨#[0x2a, 0xb4, 0x00, 0x07, 0x2a, 0xa6, 0x00, 0x07, 0x01, 0xa7, 0x00, 0x07, 0x2a, 0xb4, 0x00, 0x07, 0xb0]⟩, exceptionTable := #[], attributes := #[] }
def k9m3 : Method := { name := "getCause", desc := "()Ljava/lang/Throwable;", sig := { parameters := [], returnType := some (.object "java/lang/Throwable") }, accessFlags := 33, code := some k9c3 }
def k9c4 : Code := { maxStack := 2, maxLocals := 1, code := ⟨#[0x2a, 0xb4, 0x00, 0x11, 0xc7, 0x00, 0x0a, 0x2a, 0xb4, 0x00, 0xc6, 0xc6, 0x00, 0x10, 0x2a, 0x03, 0xb6, 0x00, 0xca, 0x57, 0x2a, 0xb2, 0x00, 0x0d, 0xb5, 0x00, 0x11, 0x2a, 0xb0]⟩, exceptionTable := #[], attributes := #[] }
def k9m4 : Method := { name := "fillInStackTrace", desc := "()Ljava/lang/Throwable;", sig := { parameters := [], returnType := some (.object "java/lang/Throwable") }, accessFlags := 33, code := some k9c4 }
def k9m5 : Method := { name := "fillInStackTrace", desc := "(I)Ljava/lang/Throwable;", sig := { parameters := [.int], returnType := some (.object "java/lang/Throwable") }, accessFlags := 258, code := none }
/-- java/lang/Throwable -/
def k9 : Class := { plain "java/lang/Throwable" (some 0) with
  accessFlags := 33
  interfaces := #[2]
  cf := some (fileOf pool9 8 #[.nestMembers #[193, 93, 101, 269]] #[{ accessFlags := 1, nameIndex := 5, descriptorIndex := 6, attributes := #[] }, { accessFlags := 1, nameIndex := 5, descriptorIndex := 223, attributes := #[] }, { accessFlags := 1, nameIndex := 41, descriptorIndex := 38, attributes := #[] }, { accessFlags := 33, nameIndex := 158, descriptorIndex := 30, attributes := #[] }, { accessFlags := 33, nameIndex := 29, descriptorIndex := 30, attributes := #[] }, { accessFlags := 258, nameIndex := 29, descriptorIndex := 204, attributes := #[] }] 33 2 #[318] #[{ accessFlags := 26, nameIndex := 320, descriptorIndex := 321, attributes := #[] }, { accessFlags := 130, nameIndex := 200, descriptorIndex := 201, attributes := #[] }, { accessFlags := 2, nameIndex := 33, descriptorIndex := 34, attributes := #[] }, { accessFlags := 26, nameIndex := 15, descriptorIndex := 16, attributes := #[] }, { accessFlags := 2, nameIndex := 11, descriptorIndex := 12, attributes := #[] }, { accessFlags := 2, nameIndex := 19, descriptorIndex := 16, attributes := #[] }, { accessFlags := 130, nameIndex := 211, descriptorIndex := 212, attributes := #[] }, { accessFlags := 26, nameIndex := 22, descriptorIndex := 23, attributes := #[] }, { accessFlags := 2, nameIndex := 26, descriptorIndex := 23, attributes := #[] }, { accessFlags := 26, nameIndex := 327, descriptorIndex := 34, attributes := #[] }, { accessFlags := 26, nameIndex := 328, descriptorIndex := 34, attributes := #[] }, { accessFlags := 26, nameIndex := 329, descriptorIndex := 34, attributes := #[] }, { accessFlags := 26, nameIndex := 330, descriptorIndex := 34, attributes := #[] }, { accessFlags := 26, nameIndex := 304, descriptorIndex := 305, attributes := #[] }, { accessFlags := 4120, nameIndex := 165, descriptorIndex := 166, attributes := #[] }])
  fields := #[{ name := "serialVersionUID", type := .long, accessFlags := 26, slot := 0, constantValue := 0 }, { name := "backtrace", type := (.object "java/lang/Object"), accessFlags := 130, slot := 0, constantValue := 0 }, { name := "detailMessage", type := (.object "java/lang/String"), accessFlags := 2, slot := 1, constantValue := 0 }, { name := "UNASSIGNED_STACK", type := (.array (.object "java/lang/StackTraceElement")), accessFlags := 26, slot := 1, constantValue := 0 }, { name := "cause", type := (.object "java/lang/Throwable"), accessFlags := 2, slot := 2, constantValue := 0 }, { name := "stackTrace", type := (.array (.object "java/lang/StackTraceElement")), accessFlags := 2, slot := 3, constantValue := 0 }, { name := "depth", type := .int, accessFlags := 130, slot := 4, constantValue := 0 }, { name := "SUPPRESSED_SENTINEL", type := (.object "java/util/List"), accessFlags := 26, slot := 2, constantValue := 0 }, { name := "suppressedExceptions", type := (.object "java/util/List"), accessFlags := 2, slot := 5, constantValue := 0 }, { name := "NULL_CAUSE_MESSAGE", type := (.object "java/lang/String"), accessFlags := 26, slot := 3, constantValue := 0 }, { name := "SELF_SUPPRESSION_MESSAGE", type := (.object "java/lang/String"), accessFlags := 26, slot := 4, constantValue := 0 }, { name := "CAUSE_CAPTION", type := (.object "java/lang/String"), accessFlags := 26, slot := 5, constantValue := 0 }, { name := "SUPPRESSED_CAPTION", type := (.object "java/lang/String"), accessFlags := 26, slot := 6, constantValue := 0 }, { name := "EMPTY_THROWABLE_ARRAY", type := (.array (.object "java/lang/Throwable")), accessFlags := 26, slot := 7, constantValue := 0 }, { name := "$assertionsDisabled", type := .boolean, accessFlags := 4120, slot := 8, constantValue := 0 }]
  methods := #[k9m0, k9m1, k9m2, k9m3, k9m4, k9m5]
  instanceTypes := #[(.object "java/lang/Object"), (.object "java/lang/String"), (.object "java/lang/Throwable"), (.array (.object "java/lang/StackTraceElement")), .int, (.object "java/util/List")]
  staticTypes := #[.long, (.array (.object "java/lang/StackTraceElement")), (.object "java/util/List"), (.object "java/lang/String"), (.object "java/lang/String"), (.object "java/lang/String"), (.object "java/lang/String"), (.array (.object "java/lang/Throwable")), .boolean]
  resolved := Array.replicate 404 none
  statics := some 1 }

def pool10 : Array CpInfo := pool [(2, .class_ 4), (1, u "java/lang/Throwable"), (0, u "<init>"), (0, u "()V"), (0, .methodref 2 8), (0, .nameAndType 5 9), (0, u "(Ljava/lang/String;)V"), (9, .class_ 20), (0, u "java/lang/Exception"), (0, u "serialVersionUID"), (0, u "J")] 17

def k10m0 : Method := { name := "<init>", desc := "()V", sig := { parameters := [], returnType := none }, accessFlags := 1, code := none }
def k10c1 : Code := { maxStack := 2, maxLocals := 2, code := jdk_59_method_2_code, exceptionTable := #[], attributes := #[] }
def k10m1 : Method := { name := "<init>", desc := "(Ljava/lang/String;)V", sig := { parameters := [(.object "java/lang/String")], returnType := none }, accessFlags := 1, code := some k10c1 }
/-- java/lang/Exception -/
def k10 : Class := { plain "java/lang/Exception" (some 9) with
  accessFlags := 33
  interfaces := #[]
  cf := some (fileOf pool10 19 #[] #[{ accessFlags := 1, nameIndex := 5, descriptorIndex := 6, attributes := #[] }, { accessFlags := 1, nameIndex := 5, descriptorIndex := 9, attributes := #[] }] 33 2 #[] #[{ accessFlags := 24, nameIndex := 21, descriptorIndex := 22, attributes := #[] }])
  fields := #[{ name := "serialVersionUID", type := .long, accessFlags := 24, slot := 0, constantValue := 0 }]
  methods := #[k10m0, k10m1]
  instanceTypes := #[(.object "java/lang/Object"), (.object "java/lang/String"), (.object "java/lang/Throwable"), (.array (.object "java/lang/StackTraceElement")), .int, (.object "java/util/List")]
  staticTypes := #[.long]
  resolved := Array.replicate 40 none
  statics := none }

def pool11 : Array CpInfo := pool [(2, .class_ 4), (1, u "java/lang/Exception"), (0, u "<init>"), (0, u "()V"), (0, .methodref 2 8), (0, .nameAndType 5 9), (0, u "(Ljava/lang/String;)V"), (9, .class_ 20), (0, u "java/lang/RuntimeException"), (0, u "serialVersionUID"), (0, u "J")] 17

def k11m0 : Method := { name := "<init>", desc := "()V", sig := { parameters := [], returnType := none }, accessFlags := 1, code := none }
def k11c1 : Code := { maxStack := 2, maxLocals := 2, code := jdk_58_method_2_code, exceptionTable := #[], attributes := #[] }
def k11m1 : Method := { name := "<init>", desc := "(Ljava/lang/String;)V", sig := { parameters := [(.object "java/lang/String")], returnType := none }, accessFlags := 1, code := some k11c1 }
/-- java/lang/RuntimeException -/
def k11 : Class := { plain "java/lang/RuntimeException" (some 10) with
  accessFlags := 33
  interfaces := #[]
  cf := some (fileOf pool11 19 #[] #[{ accessFlags := 1, nameIndex := 5, descriptorIndex := 6, attributes := #[] }, { accessFlags := 1, nameIndex := 5, descriptorIndex := 9, attributes := #[] }] 33 2 #[] #[{ accessFlags := 24, nameIndex := 21, descriptorIndex := 22, attributes := #[] }])
  fields := #[{ name := "serialVersionUID", type := .long, accessFlags := 24, slot := 0, constantValue := 0 }]
  methods := #[k11m0, k11m1]
  instanceTypes := #[(.object "java/lang/Object"), (.object "java/lang/String"), (.object "java/lang/Throwable"), (.array (.object "java/lang/StackTraceElement")), .int, (.object "java/util/List")]
  staticTypes := #[.long]
  resolved := Array.replicate 40 none
  statics := none }

def pool12 : Array CpInfo := pool [(2, .class_ 4), (1, u "java/lang/RuntimeException"), (0, u "<init>"), (0, u "()V"), (0, .methodref 2 8), (0, .nameAndType 5 9), (0, u "(Ljava/lang/String;)V"), (6, .class_ 17), (0, u "java/lang/IllegalArgumentException"), (0, u "serialVersionUID"), (0, u "J")] 15

def k12m0 : Method := { name := "<init>", desc := "()V", sig := { parameters := [], returnType := none }, accessFlags := 1, code := none }
def k12c1 : Code := { maxStack := 2, maxLocals := 2, code := jdk_57_method_2_code, exceptionTable := #[], attributes := #[] }
def k12m1 : Method := { name := "<init>", desc := "(Ljava/lang/String;)V", sig := { parameters := [(.object "java/lang/String")], returnType := none }, accessFlags := 1, code := some k12c1 }
/-- java/lang/IllegalArgumentException -/
def k12 : Class := { plain "java/lang/IllegalArgumentException" (some 11) with
  accessFlags := 33
  interfaces := #[]
  cf := some (fileOf pool12 16 #[] #[{ accessFlags := 1, nameIndex := 5, descriptorIndex := 6, attributes := #[] }, { accessFlags := 1, nameIndex := 5, descriptorIndex := 9, attributes := #[] }] 33 2 #[] #[{ accessFlags := 26, nameIndex := 18, descriptorIndex := 19, attributes := #[] }])
  fields := #[{ name := "serialVersionUID", type := .long, accessFlags := 26, slot := 0, constantValue := 0 }]
  methods := #[k12m0, k12m1]
  instanceTypes := #[(.object "java/lang/Object"), (.object "java/lang/String"), (.object "java/lang/Throwable"), (.array (.object "java/lang/StackTraceElement")), .int, (.object "java/util/List")]
  staticTypes := #[.long]
  resolved := Array.replicate 35 none
  statics := none }

def pool13 : Array CpInfo := pool [(1, .class_ 2), (0, u "java/lang/Appendable"), (0, .class_ 4), (0, u "java/lang/Object")] 9

/-- java/lang/Appendable -/
def k13 : Class := { plain "java/lang/Appendable" (some 0) with
  accessFlags := 1537
  interfaces := #[]
  cf := some (fileOf pool13 1 #[] #[] 1537 3 #[] #[])
  fields := #[]
  methods := #[]
  instanceTypes := #[]
  staticTypes := #[]
  resolved := Array.replicate 14 none
  statics := none }

def pool14 : Array CpInfo := pool [(1, .class_ 2), (0, u "java/lang/String"), (0, .methodref 4 5), (0, .class_ 6), (0, .nameAndType 7 8), (0, u "java/lang/Object"), (0, u "<init>"), (0, u "()V"), (1, .class_ 12), (1, u "java/lang/AbstractStringBuilder"), (0, u "EMPTYVALUE"), (0, u "[B"), (0, .fieldref 10 16), (0, .nameAndType 17 14), (0, u "value"), (0, .fieldref 1 19), (0, .nameAndType 20 21), (0, u "COMPACT_STRINGS"), (0, u "Z"), (0, .fieldref 10 23), (0, .nameAndType 24 25), (0, u "coder"), (0, u "B"), (0, .methodref 27 28), (0, .class_ 29), (0, .nameAndType 30 31), (0, u "java/lang/StringUTF16"), (0, u "newBytesFor"), (0, u "(I)[B"), (0, .methodref 1 33), (0, .nameAndType 34 35), (0, u "length"), (0, u "()I"), (3, .integer 2147483647), (0, .methodref 1 41), (0, .nameAndType 24 42), (0, u "()B"), (2, u "append"), (0, u "(Ljava/lang/String;)Ljava/lang/AbstractStringBuilder;"), (1, .class_ 49), (0, u "java/lang/CharSequence"), (19, u "(Ljava/lang/String;)V"), (5, u "maybeLatin1"), (3, .fieldref 10 80), (0, .nameAndType 81 82), (0, u "count"), (0, u "I"), (0, .methodref 10 84), (0, .nameAndType 85 86), (0, u "isLatin1"), (0, u "()Z"), (1, .class_ 90), (1, u "java/lang/StringLatin1"), (9, .methodref 10 101), (0, .nameAndType 102 103), (0, u "ensureCapacityInternal"), (0, u "(I)V"), (0, .methodref 10 105), (0, .nameAndType 106 107), (0, u "newCapacity"), (0, u "(I)I"), (0, .methodref 109 110), (0, .class_ 111), (0, .nameAndType 112 113), (0, u "java/util/Arrays"), (0, u "copyOf"), (0, u "([BI)[B"), (0, .methodref 115 116), (0, .class_ 117), (0, .nameAndType 118 119), (0, u "jdk/internal/util/ArraysSupport"), (0, u "newLength"), (0, u "(III)I"), (5, .methodref 88 126), (0, .nameAndType 127 128), (0, u "inflate"), (0, u "([BI[BII)V"), (66, .methodref 10 196), (0, .nameAndType 127 8), (7, .methodref 10 205), (0, .nameAndType 206 207), (0, u "appendNull"), (0, u "()Ljava/lang/AbstractStringBuilder;"), (0, .methodref 10 209), (0, .nameAndType 210 211), (0, u "putStringAt"), (0, u "(ILjava/lang/String;)V"), (5, u "inflateIfNeededFor"), (2, .nameAndType 221 222), (0, u "getBytes"), (0, u "([BIB)V"), (174, .methodref 10 398), (0, .nameAndType 217 69), (0, .methodref 1 220), (3, u "()[B"), (40, .class_ 445), (0, u "java/lang/Appendable"), (106, u "getValue")] 56

def k14m0 : Method := { name := "<init>", desc := "()V", sig := { parameters := [], returnType := none }, accessFlags := 0, code := none }
def k14c1 : Code := { maxStack := 2, maxLocals := 2, code := jdk_68_method_2_code, exceptionTable := #[], attributes := #[] }
def k14m1 : Method := { name := "<init>", desc := "(I)V", sig := { parameters := [.int], returnType := none }, accessFlags := 0, code := some k14c1 }
def k14c2 : Code := { maxStack := 1, maxLocals := 1, code := jdk_68_method_6_code, exceptionTable := #[], attributes := #[] }
def k14m2 : Method := { name := "length", desc := "()I", sig := { parameters := [], returnType := some .int }, accessFlags := 1, code := some k14c2 }
def k14c3 : Code := { maxStack := 4, maxLocals := 3, code := jdk_68_method_9_code, exceptionTable := #[], attributes := #[] }
def k14m3 : Method := { name := "ensureCapacityInternal", desc := "(I)V", sig := { parameters := [.int], returnType := none }, accessFlags := 2, code := some k14c3 }
def k14c4 : Code := { maxStack := 5, maxLocals := 6, code := jdk_68_method_10_code, exceptionTable := #[], attributes := #[] }
def k14m4 : Method := { name := "newCapacity", desc := "(I)I", sig := { parameters := [.int], returnType := some .int }, accessFlags := 2, code := some k14c4 }
def k14c5 : Code := { maxStack := 5, maxLocals := 2, code := jdk_68_method_11_code, exceptionTable := #[], attributes := #[] }
def k14m5 : Method := { name := "inflate", desc := "()V", sig := { parameters := [], returnType := none }, accessFlags := 2, code := some k14c5 }
def k14c6 : Code := { maxStack := 3, maxLocals := 3, code := jdk_68_method_22_code, exceptionTable := #[], attributes := #[] }
def k14m6 : Method := { name := "append", desc := "(Ljava/lang/String;)Ljava/lang/AbstractStringBuilder;", sig := { parameters := [(.object "java/lang/String")], returnType := some (.object "java/lang/AbstractStringBuilder") }, accessFlags := 1, code := some k14c6 }
def k14c7 : Code := { maxStack := 6, maxLocals := 3, code := jdk_68_method_26_code, exceptionTable := #[], attributes := #[] }
def k14m7 : Method := { name := "appendNull", desc := "()Ljava/lang/AbstractStringBuilder;", sig := { parameters := [], returnType := some (.object "java/lang/AbstractStringBuilder") }, accessFlags := 2, code := some k14c7 }
def k14c8 : Code := { maxStack := 1, maxLocals := 1, code := jdk_68_method_64_code, exceptionTable := #[], attributes := #[] }
def k14m8 : Method := { name := "getValue", desc := "()[B", sig := { parameters := [], returnType := some (.array .byte) }, accessFlags := 16, code := some k14c8 }
def k14c9 : Code := { maxStack := 1, maxLocals := 1, code := jdk_68_method_68_code, exceptionTable := #[], attributes := #[] }
def k14m9 : Method := { name := "isLatin1", desc := "()Z", sig := { parameters := [], returnType := some .boolean }, accessFlags := 16, code := some k14c9 }
def k14c10 : Code := { maxStack := 2, maxLocals := 2, code := jdk_68_method_71_code, exceptionTable := #[], attributes := #[] }
def k14m10 : Method := { name := "inflateIfNeededFor", desc := "(Ljava/lang/String;)V", sig := { parameters := [(.object "java/lang/String")], returnType := none }, accessFlags := 2, code := some k14c10 }
def k14c11 : Code := { maxStack := 4, maxLocals := 3, code := jdk_68_method_73_code, exceptionTable := #[], attributes := #[] }
def k14m11 : Method := { name := "putStringAt", desc := "(ILjava/lang/String;)V", sig := { parameters := [.int, (.object "java/lang/String")], returnType := none }, accessFlags := 2, code := some k14c11 }
/-- java/lang/AbstractStringBuilder -/
def k14 : Class := { plain "java/lang/AbstractStringBuilder" (some 0) with
  accessFlags := 1056
  interfaces := #[13, 4]
  cf := some (fileOf pool14 10 #[] #[{ accessFlags := 0, nameIndex := 7, descriptorIndex := 8, attributes := #[] }, { accessFlags := 0, nameIndex := 7, descriptorIndex := 103, attributes := #[] }, { accessFlags := 1, nameIndex := 34, descriptorIndex := 35, attributes := #[] }, { accessFlags := 2, nameIndex := 102, descriptorIndex := 103, attributes := #[] }, { accessFlags := 2, nameIndex := 106, descriptorIndex := 107, attributes := #[] }, { accessFlags := 2, nameIndex := 127, descriptorIndex := 8, attributes := #[] }, { accessFlags := 1, nameIndex := 45, descriptorIndex := 46, attributes := #[] }, { accessFlags := 2, nameIndex := 206, descriptorIndex := 207, attributes := #[] }, { accessFlags := 16, nameIndex := 552, descriptorIndex := 403, attributes := #[] }, { accessFlags := 16, nameIndex := 85, descriptorIndex := 86, attributes := #[] }, { accessFlags := 2, nameIndex := 217, descriptorIndex := 69, attributes := #[] }, { accessFlags := 2, nameIndex := 210, descriptorIndex := 211, attributes := #[] }] 1056 4 #[444, 48] #[{ accessFlags := 0, nameIndex := 17, descriptorIndex := 14, attributes := #[] }, { accessFlags := 0, nameIndex := 24, descriptorIndex := 25, attributes := #[] }, { accessFlags := 0, nameIndex := 75, descriptorIndex := 21, attributes := #[] }, { accessFlags := 0, nameIndex := 81, descriptorIndex := 82, attributes := #[] }, { accessFlags := 26, nameIndex := 13, descriptorIndex := 14, attributes := #[] }])
  fields := #[{ name := "value", type := (.array .byte), accessFlags := 0, slot := 0, constantValue := 0 }, { name := "coder", type := .byte, accessFlags := 0, slot := 1, constantValue := 0 }, { name := "maybeLatin1", type := .boolean, accessFlags := 0, slot := 2, constantValue := 0 }, { name := "count", type := .int, accessFlags := 0, slot := 3, constantValue := 0 }, { name := "EMPTYVALUE", type := (.array .byte), accessFlags := 26, slot := 0, constantValue := 0 }]
  methods := #[k14m0, k14m1, k14m2, k14m3, k14m4, k14m5, k14m6, k14m7, k14m8, k14m9, k14m10, k14m11]
  instanceTypes := #[(.array .byte), .byte, .boolean, .int]
  staticTypes := #[(.array .byte)]
  resolved := Array.replicate 609 none
  statics := none }

def pool15 : Array CpInfo := pool [(1, .methodref 2 3), (0, .class_ 4), (0, .nameAndType 5 6), (0, u "java/lang/AbstractStringBuilder"), (0, u "<init>"), (0, u "(I)V"), (11, .class_ 20), (1, u "java/lang/String"), (3, .class_ 26), (1, u "java/lang/StringBuilder"), (0, u "append"), (0, u "(Ljava/lang/String;)Ljava/lang/StringBuilder;"), (0, .methodref 2 30), (0, .nameAndType 27 31), (0, u "(Ljava/lang/String;)Ljava/lang/AbstractStringBuilder;"), (105, .methodref 18 138), (0, .nameAndType 5 139), (0, u "(Ljava/lang/StringBuilder;)V"), (5, u "()V"), (10, u "()I"), (186, .methodref 2 344), (0, .nameAndType 345 156), (0, u "length"), (3, .class_ 350), (0, u "java/lang/Appendable"), (0, .class_ 352), (0, u "java/io/Serializable"), (0, .class_ 354), (0, u "java/lang/Comparable"), (0, .class_ 356), (0, u "java/lang/CharSequence"), (0, u "serialVersionUID"), (0, u "J"), (40, u "toString"), (0, u "()Ljava/lang/String;")] 21

def k15c0 : Code := { maxStack := 2, maxLocals := 1, code := jdk_67_method_1_code, exceptionTable := #[], attributes := #[] }
def k15m0 : Method := { name := "<init>", desc := "()V", sig := { parameters := [], returnType := none }, accessFlags := 1, code := some k15c0 }
def k15c1 : Code := { maxStack := 2, maxLocals := 2, code := jdk_67_method_7_code, exceptionTable := #[], attributes := #[] }
def k15m1 : Method := { name := "append", desc := "(Ljava/lang/String;)Ljava/lang/StringBuilder;", sig := { parameters := [(.object "java/lang/String")], returnType := some (.object "java/lang/StringBuilder") }, accessFlags := 1, code := some k15c1 }
def k15c2 : Code := { maxStack := 3, maxLocals := 1, code := jdk_67_method_42_code, exceptionTable := #[], attributes := #[] }
def k15m2 : Method := { name := "toString", desc := "()Ljava/lang/String;", sig := { parameters := [], returnType := some (.object "java/lang/String") }, accessFlags := 1, code := some k15c2 }
def k15c3 : Code := { maxStack := 1, maxLocals := 1, code := jdk_67_method_93_code, exceptionTable := #[], attributes := #[] }
def k15m3 : Method := { name := "length", desc := "()I", sig := { parameters := [], returnType := some .int }, accessFlags := 4161, code := some k15c3 }
/-- java/lang/StringBuilder -/
def k15 : Class := { plain "java/lang/StringBuilder" (some 14) with
  accessFlags := 49
  interfaces := #[13, 2, 3, 4]
  cf := some (fileOf pool15 24 #[] #[{ accessFlags := 1, nameIndex := 5, descriptorIndex := 145, attributes := #[] }, { accessFlags := 1, nameIndex := 27, descriptorIndex := 28, attributes := #[] }, { accessFlags := 1, nameIndex := 399, descriptorIndex := 400, attributes := #[] }, { accessFlags := 4161, nameIndex := 345, descriptorIndex := 156, attributes := #[] }] 49 2 #[349, 351, 353, 355] #[{ accessFlags := 24, nameIndex := 357, descriptorIndex := 358, attributes := #[] }])
  fields := #[{ name := "serialVersionUID", type := .long, accessFlags := 24, slot := 0, constantValue := 0 }]
  methods := #[k15m0, k15m1, k15m2, k15m3]
  instanceTypes := #[(.array .byte), .byte, .boolean, .int]
  staticTypes := #[.long]
  resolved := Array.replicate 422 none
  statics := none }

def pool16 : Array CpInfo := pool [(2, .class_ 4), (1, u "java/lang/Object"), (0, u "<init>"), (0, u "()V"), (1, .class_ 10), (1, u "java/lang/System"), (0, u "allowSecurityManager"), (0, u "I"), (16, u "cons"), (0, u "Ljava/io/Console;"), (77, .class_ 110), (1, u "java/lang/System$CallersHolder"), (43, u "initialErrStream"), (0, u "Ljava/io/PrintStream;"), (19, u "security"), (0, u "Ljava/lang/SecurityManager;"), (31, .class_ 209), (0, u "java/lang/System$1"), (7, u "props"), (0, u "Ljava/util/Properties;"), (2, u "lineSeparator"), (0, u "Ljava/lang/String;"), (96, .class_ 321), (1, u "java/lang/System$LoggerFinder"), (5, .class_ 328), (0, u "java/lang/System$Logger"), (67, u "err"), (2, u "out"), (91, u "notSupportedJnuEncoding"), (15, u "in"), (17, u "initialIn"), (0, u "Ljava/io/InputStream;"), (35, u "bootLayer"), (0, u "Ljava/lang/ModuleLayer;"), (99, .class_ 664), (0, u "java/lang/System$2"), (9, u "NEVER"), (2, u "MAYBE"), (49, u "arraycopy"), (0, u "(Ljava/lang/Object;ILjava/lang/Object;II)V"), (72, .class_ 802), (0, u "java/lang/System$Logger$Level")] 31

def k16m0 : Method := { name := "<init>", desc := "()V", sig := { parameters := [], returnType := none }, accessFlags := 2, code := none }
def k16m1 : Method := { name := "arraycopy", desc := "(Ljava/lang/Object;ILjava/lang/Object;II)V", sig := { parameters := [(.object "java/lang/Object"), .int, (.object "java/lang/Object"), .int, .int], returnType := none }, accessFlags := 265, code := none }
/-- java/lang/System -/
def k16 : Class := { plain "java/lang/System" (some 0) with
  accessFlags := 49
  interfaces := #[]
  cf := some (fileOf pool16 8 #[.nestMembers #[319, 327, 801, 108, 663, 208]] #[{ accessFlags := 2, nameIndex := 5, descriptorIndex := 6, attributes := #[] }, { accessFlags := 265, nameIndex := 727, descriptorIndex := 728, attributes := #[] }] 49 2 #[] #[{ accessFlags := 25, nameIndex := 507, descriptorIndex := 526, attributes := #[] }, { accessFlags := 25, nameIndex := 399, descriptorIndex := 155, attributes := #[] }, { accessFlags := 25, nameIndex := 396, descriptorIndex := 155, attributes := #[] }, { accessFlags := 10, nameIndex := 525, descriptorIndex := 526, attributes := #[] }, { accessFlags := 26, nameIndex := 674, descriptorIndex := 12, attributes := #[] }, { accessFlags := 26, nameIndex := 677, descriptorIndex := 12, attributes := #[] }, { accessFlags := 10, nameIndex := 11, descriptorIndex := 12, attributes := #[] }, { accessFlags := 74, nameIndex := 175, descriptorIndex := 176, attributes := #[] }, { accessFlags := 10, nameIndex := 491, descriptorIndex := 222, attributes := #[] }, { accessFlags := 74, nameIndex := 29, descriptorIndex := 30, attributes := #[] }, { accessFlags := 74, nameIndex := 154, descriptorIndex := 155, attributes := #[] }, { accessFlags := 10, nameIndex := 217, descriptorIndex := 218, attributes := #[] }, { accessFlags := 10, nameIndex := 221, descriptorIndex := 222, attributes := #[] }, { accessFlags := 8, nameIndex := 562, descriptorIndex := 563, attributes := #[] }])
  fields := #[{ name := "in", type := (.object "java/io/InputStream"), accessFlags := 25, slot := 0, constantValue := 0 }, { name := "out", type := (.object "java/io/PrintStream"), accessFlags := 25, slot := 1, constantValue := 0 }, { name := "err", type := (.object "java/io/PrintStream"), accessFlags := 25, slot := 2, constantValue := 0 }, { name := "initialIn", type := (.object "java/io/InputStream"), accessFlags := 10, slot := 3, constantValue := 0 }, { name := "NEVER", type := .int, accessFlags := 26, slot := 4, constantValue := 0 }, { name := "MAYBE", type := .int, accessFlags := 26, slot := 5, constantValue := 0 }, { name := "allowSecurityManager", type := .int, accessFlags := 10, slot := 6, constantValue := 0 }, { name := "security", type := (.object "java/lang/SecurityManager"), accessFlags := 74, slot := 7, constantValue := 0 }, { name := "notSupportedJnuEncoding", type := (.object "java/lang/String"), accessFlags := 10, slot := 8, constantValue := 0 }, { name := "cons", type := (.object "java/io/Console"), accessFlags := 74, slot := 9, constantValue := 0 }, { name := "initialErrStream", type := (.object "java/io/PrintStream"), accessFlags := 74, slot := 10, constantValue := 0 }, { name := "props", type := (.object "java/util/Properties"), accessFlags := 10, slot := 11, constantValue := 0 }, { name := "lineSeparator", type := (.object "java/lang/String"), accessFlags := 10, slot := 12, constantValue := 0 }, { name := "bootLayer", type := (.object "java/lang/ModuleLayer"), accessFlags := 8, slot := 13, constantValue := 0 }]
  methods := #[k16m0, k16m1]
  instanceTypes := #[]
  staticTypes := #[(.object "java/io/InputStream"), (.object "java/io/PrintStream"), (.object "java/io/PrintStream"), (.object "java/io/InputStream"), .int, .int, .int, (.object "java/lang/SecurityManager"), (.object "java/lang/String"), (.object "java/io/Console"), (.object "java/io/PrintStream"), (.object "java/util/Properties"), (.object "java/lang/String"), (.object "java/lang/ModuleLayer")]
  resolved := Array.replicate 834 none
  statics := none }

def pool17 : Array CpInfo := pool [(2, .class_ 4), (1, u "java/lang/Object"), (0, u "<init>"), (0, u "()V"), (7, .class_ 16), (1, u "java/util/Arrays"), (57, .class_ 76), (1, u "java/util/Arrays$NaturalOrder"), (32, u "()Ljava/lang/Object;"), (3, .class_ 115), (1, u "java/util/Arrays$LegacyMergeSort"), (1, u "Z"), (10, .nameAndType 129 109), (0, u "clone"), (9, u "copyOfRange"), (10, .methodref 151 152), (0, .class_ 153), (0, .nameAndType 154 155), (0, u "java/lang/System"), (0, u "arraycopy"), (0, u "(Ljava/lang/Object;ILjava/lang/Object;II)V"), (146, u "copyOf"), (1, .methodref 305 306), (0, .class_ 307), (0, .nameAndType 308 309), (0, u "java/lang/Math"), (0, u "min"), (0, u "(II)I"), (0, .methodref 311 128), (0, .class_ 312), (0, u "[B"), (26, .methodref 14 340), (0, .nameAndType 341 342), (0, u "copyOfRangeByte"), (0, u "([BII)[B"), (0, .methodref 14 344), (0, .nameAndType 345 346), (0, u "checkLength"), (0, u "(II)V"), (28, .class_ 376), (0, u "java/util/Arrays$ArrayList"), (68, u "$assertionsDisabled"), (269, u "MIN_ARRAY_SORT_GRAN"), (0, u "I"), (2, u "INSERTIONSORT_THRESHOLD"), (149, u "([BI)[B"), (105, .class_ 976), (0, u "java/util/Arrays$ArrayItr")] 52

def k17m0 : Method := { name := "<init>", desc := "()V", sig := { parameters := [], returnType := none }, accessFlags := 2, code := none }
def k17c1 : Code := { maxStack := 6, maxLocals := 3, code := jdk_65_method_121_code, exceptionTable := #[], attributes := #[] }
def k17m1 : Method := { name := "copyOf", desc := "([BI)[B", sig := { parameters := [(.array .byte), .int], returnType := some (.array .byte) }, accessFlags := 9, code := some k17c1 }
def k17c2 : Code := { maxStack := 4, maxLocals := 2, code := jdk_65_method_131_code, exceptionTable := #[], attributes := #[] }
def k17m2 : Method := { name := "checkLength", desc := "(II)V", sig := { parameters := [.int, .int], returnType := none }, accessFlags := 10, code := some k17c2 }
def k17c3 : Code := { maxStack := 3, maxLocals := 3, code := jdk_65_method_132_code, exceptionTable := #[], attributes := #[] }
def k17m3 : Method := { name := "copyOfRange", desc := "([BII)[B", sig := { parameters := [(.array .byte), .int, .int], returnType := some (.array .byte) }, accessFlags := 9, code := some k17c3 }
def k17c4 : Code := { maxStack := 6, maxLocals := 5, code := jdk_65_method_133_code, exceptionTable := #[], attributes := #[] }
def k17m4 : Method := { name := "copyOfRangeByte", desc := "([BII)[B", sig := { parameters := [(.array .byte), .int, .int], returnType := some (.array .byte) }, accessFlags := 10, code := some k17c4 }
/-- java/util/Arrays -/
def k17 : Class := { plain "java/util/Arrays" (some 0) with
  accessFlags := 49
  interfaces := #[]
  cf := some (fileOf pool17 14 #[.nestMembers #[975, 375, 113, 74]] #[{ accessFlags := 2, nameIndex := 5, descriptorIndex := 6, attributes := #[] }, { accessFlags := 9, nameIndex := 302, descriptorIndex := 869, attributes := #[] }, { accessFlags := 10, nameIndex := 345, descriptorIndex := 346, attributes := #[] }, { accessFlags := 9, nameIndex := 139, descriptorIndex := 342, attributes := #[] }, { accessFlags := 10, nameIndex := 341, descriptorIndex := 342, attributes := #[] }] 49 2 #[] #[{ accessFlags := 26, nameIndex := 715, descriptorIndex := 716, attributes := #[] }, { accessFlags := 26, nameIndex := 719, descriptorIndex := 716, attributes := #[] }, { accessFlags := 4120, nameIndex := 445, descriptorIndex := 117, attributes := #[] }])
  fields := #[{ name := "MIN_ARRAY_SORT_GRAN", type := .int, accessFlags := 26, slot := 0, constantValue := 0 }, { name := "INSERTIONSORT_THRESHOLD", type := .int, accessFlags := 26, slot := 1, constantValue := 0 }, { name := "$assertionsDisabled", type := .boolean, accessFlags := 4120, slot := 2, constantValue := 0 }]
  methods := #[k17m0, k17m1, k17m2, k17m3, k17m4]
  instanceTypes := #[]
  staticTypes := #[.int, .int, .boolean]
  resolved := Array.replicate 1029 none
  statics := none }

def pool18 : Array CpInfo := pool [(1, .class_ 2), (0, u "java/lang/Math"), (1, .class_ 6), (1, u "java/lang/Object"), (0, u "<init>"), (0, u "()V"), (89, .class_ 100), (1, u "java/lang/Math$RandomNumberGeneratorHolder"), (71, u "negativeZeroFloatBits"), (0, u "J"), (2, u "negativeZeroDoubleBits"), (21, u "max"), (2, u "min"), (43, u "$assertionsDisabled"), (0, u "Z"), (88, u "(II)I"), (2, u "twoToTheDoubleScaleDown"), (0, u "D"), (4, u "twoToTheDoubleScaleUp"), (9, u "E"), (3, u "PI"), (2, u "TAU"), (2, u "DEGREES_TO_RADIANS"), (0, u "RADIANS_TO_DEGREES")] 94

def k18m0 : Method := { name := "<init>", desc := "()V", sig := { parameters := [], returnType := none }, accessFlags := 2, code := none }
def k18c1 : Code := { maxStack := 2, maxLocals := 2, code := jdk_29_method_65_code, exceptionTable := #[], attributes := #[] }
def k18m1 : Method := { name := "max", desc := "(II)I", sig := { parameters := [.int, .int], returnType := some .int }, accessFlags := 9, code := some k18c1 }
def k18c2 : Code := { maxStack := 2, maxLocals := 2, code := jdk_29_method_69_code, exceptionTable := #[], attributes := #[] }
def k18m2 : Method := { name := "min", desc := "(II)I", sig := { parameters := [.int, .int], returnType := some .int }, accessFlags := 9, code := some k18c2 }
/-- java/lang/Math -/
def k18 : Class := { plain "java/lang/Math" (some 0) with
  accessFlags := 49
  interfaces := #[]
  cf := some (fileOf pool18 1 #[.nestMembers #[98]] #[{ accessFlags := 2, nameIndex := 7, descriptorIndex := 8, attributes := #[] }, { accessFlags := 9, nameIndex := 198, descriptorIndex := 335, attributes := #[] }, { accessFlags := 9, nameIndex := 201, descriptorIndex := 335, attributes := #[] }] 49 4 #[] #[{ accessFlags := 25, nameIndex := 354, descriptorIndex := 339, attributes := #[] }, { accessFlags := 25, nameIndex := 358, descriptorIndex := 339, attributes := #[] }, { accessFlags := 25, nameIndex := 361, descriptorIndex := 339, attributes := #[] }, { accessFlags := 26, nameIndex := 364, descriptorIndex := 339, attributes := #[] }, { accessFlags := 26, nameIndex := 365, descriptorIndex := 339, attributes := #[] }, { accessFlags := 26, nameIndex := 172, descriptorIndex := 173, attributes := #[] }, { accessFlags := 26, nameIndex := 176, descriptorIndex := 173, attributes := #[] }, { accessFlags := 8, nameIndex := 344, descriptorIndex := 339, attributes := #[] }, { accessFlags := 8, nameIndex := 338, descriptorIndex := 339, attributes := #[] }, { accessFlags := 4120, nameIndex := 245, descriptorIndex := 246, attributes := #[] }])
  fields := #[{ name := "E", type := .double, accessFlags := 25, slot := 0, constantValue := 0 }, { name := "PI", type := .double, accessFlags := 25, slot := 1, constantValue := 0 }, { name := "TAU", type := .double, accessFlags := 25, slot := 2, constantValue := 0 }, { name := "DEGREES_TO_RADIANS", type := .double, accessFlags := 26, slot := 3, constantValue := 0 }, { name := "RADIANS_TO_DEGREES", type := .double, accessFlags := 26, slot := 4, constantValue := 0 }, { name := "negativeZeroFloatBits", type := .long, accessFlags := 26, slot := 5, constantValue := 0 }, { name := "negativeZeroDoubleBits", type := .long, accessFlags := 26, slot := 6, constantValue := 0 }, { name := "twoToTheDoubleScaleUp", type := .double, accessFlags := 8, slot := 7, constantValue := 0 }, { name := "twoToTheDoubleScaleDown", type := .double, accessFlags := 8, slot := 8, constantValue := 0 }, { name := "$assertionsDisabled", type := .boolean, accessFlags := 4120, slot := 9, constantValue := 0 }]
  methods := #[k18m0, k18m1, k18m2]
  instanceTypes := #[]
  staticTypes := #[.double, .double, .double, .double, .double, .long, .long, .double, .double, .boolean]
  resolved := Array.replicate 460 none
  statics := none }

def pool19 : Array CpInfo := pool [(4, .class_ 6), (1, u "java/lang/Object"), (0, u "<init>"), (0, u "()V"), (5, .class_ 16), (1, u "java/lang/StringLatin1"), (0, u "inflate"), (2, .class_ 22), (1, u "java/lang/StringUTF16"), (3, .nameAndType 17 27), (0, u "([BI[BII)V"), (93, u "$assertionsDisabled"), (0, u "Z"), (98, .class_ 223), (1, u "java/lang/StringLatin1$LinesSpliterator"), (16, .methodref 20 26), (40, u "equals"), (0, u "([B[B)Z"), (107, .class_ 391), (0, u "java/lang/StringLatin1$CharsSpliterator")] 3

def k19m0 : Method := { name := "<init>", desc := "()V", sig := { parameters := [], returnType := none }, accessFlags := 0, code := none }
def k19c1 : Code := { maxStack := 3, maxLocals := 3, code := jdk_43_method_13_code, exceptionTable := #[], attributes := #[] }
def k19m1 : Method := { name := "equals", desc := "([B[B)Z", sig := { parameters := [(.array .byte), (.array .byte)], returnType := some .boolean }, accessFlags := 9, code := some k19c1 }
def k19c2 : Code := { maxStack := 5, maxLocals := 5, code := jdk_43_method_50_code, exceptionTable := #[], attributes := #[] }
def k19m2 : Method := { name := "inflate", desc := "([BI[BII)V", sig := { parameters := [(.array .byte), .int, (.array .byte), .int, .int], returnType := none }, accessFlags := 9, code := some k19c2 }
/-- java/lang/StringLatin1 -/
def k19 : Class := { plain "java/lang/StringLatin1" (some 0) with
  accessFlags := 48
  interfaces := #[]
  cf := some (fileOf pool19 14 #[.nestMembers #[390, 221]] #[{ accessFlags := 0, nameIndex := 7, descriptorIndex := 8, attributes := #[] }, { accessFlags := 9, nameIndex := 281, descriptorIndex := 282, attributes := #[] }, { accessFlags := 9, nameIndex := 17, descriptorIndex := 27, attributes := #[] }] 48 4 #[] #[{ accessFlags := 4120, nameIndex := 121, descriptorIndex := 122, attributes := #[] }])
  fields := #[{ name := "$assertionsDisabled", type := .boolean, accessFlags := 4120, slot := 0, constantValue := 0 }]
  methods := #[k19m0, k19m1, k19m2]
  instanceTypes := #[]
  staticTypes := #[.boolean]
  resolved := Array.replicate 395 none
  statics := none }

def pool20 : Array CpInfo := pool [(9, u "<init>"), (6, .class_ 18), (1, u "java/lang/Object"), (0, u "()V"), (1, .class_ 23), (1, u "jdk/internal/util/ArraysSupport"), (0, u "LOG2_ARRAY_LONG_INDEX_SCALE"), (0, u "I"), (2, u "U"), (0, u "Ljdk/internal/misc/Unsafe;"), (8, u "BIG_ENDIAN"), (0, u "Z"), (8, u "LOG2_BYTE_BIT_SIZE"), (4, u "LOG2_ARRAY_INT_INDEX_SCALE"), (54, u "JLA"), (0, u "Ljdk/internal/access/JavaLangAccess;"), (11, u "LOG2_ARRAY_BOOLEAN_INDEX_SCALE"), (9, u "LOG2_ARRAY_BYTE_INDEX_SCALE"), (5, u "LOG2_ARRAY_CHAR_INDEX_SCALE"), (5, u "LOG2_ARRAY_SHORT_INDEX_SCALE"), (18, u "LOG2_ARRAY_FLOAT_INDEX_SCALE"), (24, u "LOG2_ARRAY_DOUBLE_INDEX_SCALE"), (6, .methodref 195 196), (0, .class_ 197), (0, .nameAndType 198 199), (0, u "java/lang/Math"), (0, u "max"), (0, u "(II)I"), (0, .integer 2147483639), (76, u "T_BOOLEAN"), (2, u "T_CHAR"), (1, u "T_FLOAT"), (1, u "T_DOUBLE"), (1, u "T_BYTE"), (1, u "T_SHORT"), (1, u "T_INT"), (1, u "T_LONG"), (1, u "SOFT_MAX_ARRAY_LENGTH"), (56, u "newLength"), (0, u "(III)I")] 25

def k20m0 : Method := { name := "<init>", desc := "()V", sig := { parameters := [], returnType := none }, accessFlags := 2, code := none }
def k20c1 : Code := { maxStack := 3, maxLocals := 4, code := jdk_48_method_27_code, exceptionTable := #[], attributes := #[] }
def k20m1 : Method := { name := "newLength", desc := "(III)I", sig := { parameters := [.int, .int, .int], returnType := some .int }, accessFlags := 9, code := some k20c1 }
/-- jdk/internal/util/ArraysSupport -/
def k20 : Class := { plain "jdk/internal/util/ArraysSupport" (some 0) with
  accessFlags := 33
  interfaces := #[]
  cf := some (fileOf pool20 21 #[] #[{ accessFlags := 2, nameIndex := 9, descriptorIndex := 19, attributes := #[] }, { accessFlags := 9, nameIndex := 351, descriptorIndex := 352, attributes := #[] }] 33 16 #[] #[{ accessFlags := 24, nameIndex := 28, descriptorIndex := 29, attributes := #[] }, { accessFlags := 26, nameIndex := 38, descriptorIndex := 39, attributes := #[] }, { accessFlags := 25, nameIndex := 121, descriptorIndex := 25, attributes := #[] }, { accessFlags := 25, nameIndex := 131, descriptorIndex := 25, attributes := #[] }, { accessFlags := 25, nameIndex := 137, descriptorIndex := 25, attributes := #[] }, { accessFlags := 25, nameIndex := 143, descriptorIndex := 25, attributes := #[] }, { accessFlags := 25, nameIndex := 53, descriptorIndex := 25, attributes := #[] }, { accessFlags := 25, nameIndex := 24, descriptorIndex := 25, attributes := #[] }, { accessFlags := 25, nameIndex := 162, descriptorIndex := 25, attributes := #[] }, { accessFlags := 25, nameIndex := 187, descriptorIndex := 25, attributes := #[] }, { accessFlags := 26, nameIndex := 48, descriptorIndex := 25, attributes := #[] }, { accessFlags := 25, nameIndex := 277, descriptorIndex := 25, attributes := #[] }, { accessFlags := 25, nameIndex := 280, descriptorIndex := 25, attributes := #[] }, { accessFlags := 25, nameIndex := 282, descriptorIndex := 25, attributes := #[] }, { accessFlags := 25, nameIndex := 284, descriptorIndex := 25, attributes := #[] }, { accessFlags := 25, nameIndex := 286, descriptorIndex := 25, attributes := #[] }, { accessFlags := 25, nameIndex := 288, descriptorIndex := 25, attributes := #[] }, { accessFlags := 25, nameIndex := 290, descriptorIndex := 25, attributes := #[] }, { accessFlags := 25, nameIndex := 292, descriptorIndex := 25, attributes := #[] }, { accessFlags := 26, nameIndex := 108, descriptorIndex := 109, attributes := #[] }, { accessFlags := 25, nameIndex := 294, descriptorIndex := 25, attributes := #[] }])
  fields := #[{ name := "U", type := (.object "jdk/internal/misc/Unsafe"), accessFlags := 24, slot := 0, constantValue := 0 }, { name := "BIG_ENDIAN", type := .boolean, accessFlags := 26, slot := 1, constantValue := 0 }, { name := "LOG2_ARRAY_BOOLEAN_INDEX_SCALE", type := .int, accessFlags := 25, slot := 2, constantValue := 0 }, { name := "LOG2_ARRAY_BYTE_INDEX_SCALE", type := .int, accessFlags := 25, slot := 3, constantValue := 0 }, { name := "LOG2_ARRAY_CHAR_INDEX_SCALE", type := .int, accessFlags := 25, slot := 4, constantValue := 0 }, { name := "LOG2_ARRAY_SHORT_INDEX_SCALE", type := .int, accessFlags := 25, slot := 5, constantValue := 0 }, { name := "LOG2_ARRAY_INT_INDEX_SCALE", type := .int, accessFlags := 25, slot := 6, constantValue := 0 }, { name := "LOG2_ARRAY_LONG_INDEX_SCALE", type := .int, accessFlags := 25, slot := 7, constantValue := 0 }, { name := "LOG2_ARRAY_FLOAT_INDEX_SCALE", type := .int, accessFlags := 25, slot := 8, constantValue := 0 }, { name := "LOG2_ARRAY_DOUBLE_INDEX_SCALE", type := .int, accessFlags := 25, slot := 9, constantValue := 0 }, { name := "LOG2_BYTE_BIT_SIZE", type := .int, accessFlags := 26, slot := 10, constantValue := 0 }, { name := "T_BOOLEAN", type := .int, accessFlags := 25, slot := 11, constantValue := 0 }, { name := "T_CHAR", type := .int, accessFlags := 25, slot := 12, constantValue := 0 }, { name := "T_FLOAT", type := .int, accessFlags := 25, slot := 13, constantValue := 0 }, { name := "T_DOUBLE", type := .int, accessFlags := 25, slot := 14, constantValue := 0 }, { name := "T_BYTE", type := .int, accessFlags := 25, slot := 15, constantValue := 0 }, { name := "T_SHORT", type := .int, accessFlags := 25, slot := 16, constantValue := 0 }, { name := "T_INT", type := .int, accessFlags := 25, slot := 17, constantValue := 0 }, { name := "T_LONG", type := .int, accessFlags := 25, slot := 18, constantValue := 0 }, { name := "JLA", type := (.object "jdk/internal/access/JavaLangAccess"), accessFlags := 26, slot := 19, constantValue := 0 }, { name := "SOFT_MAX_ARRAY_LENGTH", type := .int, accessFlags := 25, slot := 20, constantValue := 0 }]
  methods := #[k20m0, k20m1]
  instanceTypes := #[]
  staticTypes := #[(.object "jdk/internal/misc/Unsafe"), .boolean, .int, .int, .int, .int, .int, .int, .int, .int, .int, .int, .int, .int, .int, .int, .int, .int, .int, (.object "jdk/internal/access/JavaLangAccess"), .int]
  resolved := Array.replicate 378 none
  statics := none }

def pool21 : Array CpInfo := pool [(3, .class_ 4), (0, u "java/lang/String"), (1, .class_ 8), (1, u "java/lang/Object"), (0, u "<init>"), (0, u "()V"), (0, .methodref 12 13), (0, .class_ 14), (0, .nameAndType 15 16), (0, u "java/lang/StringUTF16"), (0, u "newBytesLength"), (0, u "(I)I"), (3, .integer 1073741823), (23, .fieldref 12 45), (0, .nameAndType 46 47), (0, u "$assertionsDisabled"), (0, u "Z"), (0, .methodref 12 49), (0, .nameAndType 50 51), (0, u "length"), (0, u "([B)I"), (7, .fieldref 12 60), (0, .nameAndType 61 62), (0, u "HI_BYTE_SHIFT"), (0, u "I"), (0, .fieldref 12 64), (0, .nameAndType 65 62), (0, u "LO_BYTE_SHIFT"), (5, .methodref 12 72), (0, .nameAndType 73 74), (0, u "getChar"), (0, u "([BI)C"), (24, u "(II[B)V"), (7, .methodref 12 108), (0, .nameAndType 109 110), (0, u "newBytesFor"), (0, u "(I)[B"), (0, .methodref 12 112), (0, .nameAndType 113 114), (0, u "putChar"), (0, u "([BII)V"), (0, .methodref 12 116), (0, .nameAndType 117 118), (0, u "compress"), (0, u "([CI[BII)I"), (0, .methodref 12 120), (0, .nameAndType 121 122), (0, u "toBytes"), (0, u "([CII)[B"), (17, u "inflate"), (0, u "([BI[BII)V"), (31, .methodref 12 174), (0, .nameAndType 175 99), (0, u "checkBoundsOffCount"), (85, u "coderFromArrayLen"), (0, u "([BI)B"), (18, u "(III)I"), (87, .class_ 371), (1, u "java/lang/StringUTF16$LinesSpliterator"), (47, .methodref 3 420), (0, .nameAndType 175 281), (9, u "MAX_LENGTH"), (196, .class_ 628), (0, u "java/lang/StringUTF16$CodePointsSpliterator"), (0, .class_ 630), (0, u "java/lang/StringUTF16$CharsSpliterator")] 4

def k21m0 : Method := { name := "<init>", desc := "()V", sig := { parameters := [], returnType := none }, accessFlags := 0, code := none }
def k21c1 : Code := { maxStack := 1, maxLocals := 1, code := jdk_52_method_2_code, exceptionTable := #[], attributes := #[] }
def k21m1 : Method := { name := "newBytesFor", desc := "(I)[B", sig := { parameters := [.int], returnType := some (.array .byte) }, accessFlags := 9, code := some k21c1 }
def k21c2 : Code := { maxStack := 4, maxLocals := 1, code := jdk_52_method_3_code, exceptionTable := #[], attributes := #[] }
def k21m2 : Method := { name := "newBytesLength", desc := "(I)I", sig := { parameters := [.int], returnType := some .int }, accessFlags := 9, code := some k21c2 }
def k21c3 : Code := { maxStack := 4, maxLocals := 3, code := jdk_52_method_4_code, exceptionTable := #[], attributes := #[] }
def k21m3 : Method := { name := "putChar", desc := "([BII)V", sig := { parameters := [(.array .byte), .int, .int], returnType := none }, accessFlags := 8, code := some k21c3 }
def k21c4 : Code := { maxStack := 3, maxLocals := 2, code := jdk_52_method_5_code, exceptionTable := #[], attributes := #[] }
def k21m4 : Method := { name := "getChar", desc := "([BI)C", sig := { parameters := [(.array .byte), .int], returnType := some .char }, accessFlags := 8, code := some k21c4 }
def k21c5 : Code := { maxStack := 2, maxLocals := 1, code := jdk_52_method_6_code, exceptionTable := #[], attributes := #[] }
def k21m5 : Method := { name := "length", desc := "([B)I", sig := { parameters := [(.array .byte)], returnType := some .int }, accessFlags := 9, code := some k21c5 }
def k21c6 : Code := { maxStack := 4, maxLocals := 5, code := jdk_52_method_14_code, exceptionTable := #[], attributes := #[] }
def k21m6 : Method := { name := "toBytes", desc := "([CII)[B", sig := { parameters := [(.array .char), .int, .int], returnType := some (.array .byte) }, accessFlags := 9, code := some k21c6 }
def k21c7 : Code := { maxStack := 2, maxLocals := 2, code := jdk_52_method_15_code, exceptionTable := #[], attributes := #[] }
def k21m7 : Method := { name := "coderFromArrayLen", desc := "([BI)B", sig := { parameters := [(.array .byte), .int], returnType := some .byte }, accessFlags := 8, code := some k21c7 }
def k21c8 : Code := { maxStack := 5, maxLocals := 6, code := jdk_52_method_16_code, exceptionTable := #[], attributes := #[] }
def k21m8 : Method := { name := "compress", desc := "([CII)[B", sig := { parameters := [(.array .char), .int, .int], returnType := some (.array .byte) }, accessFlags := 9, code := some k21c8 }
def k21c9 : Code := { maxStack := 3, maxLocals := 7, code := jdk_52_method_21_code, exceptionTable := #[], attributes := #[] }
def k21m9 : Method := { name := "compress", desc := "([CI[BII)I", sig := { parameters := [(.array .char), .int, (.array .byte), .int, .int], returnType := some .int }, accessFlags := 9, code := some k21c9 }
def k21c10 : Code := { maxStack := 4, maxLocals := 6, code := jdk_52_method_86_code, exceptionTable := #[], attributes := #[] }
def k21m10 : Method := { name := "inflate", desc := "([BI[BII)V", sig := { parameters := [(.array .byte), .int, (.array .byte), .int, .int], returnType := none }, accessFlags := 9, code := some k21c10 }
def k21c11 : Code := { maxStack := 3, maxLocals := 3, code := jdk_52_method_94_code, exceptionTable := #[], attributes := #[] }
def k21m11 : Method := { name := "checkBoundsOffCount", desc := "(II[B)V", sig := { parameters := [.int, .int, (.array .byte)], returnType := none }, accessFlags := 9, code := some k21c11 }
/-- java/lang/StringUTF16 -/
def k21 : Class := { plain "java/lang/StringUTF16" (some 0) with
  accessFlags := 48
  interfaces := #[]
  cf := some (fileOf pool21 12 #[.nestMembers #[627, 629, 369]] #[{ accessFlags := 0, nameIndex := 9, descriptorIndex := 10, attributes := #[] }, { accessFlags := 9, nameIndex := 109, descriptorIndex := 110, attributes := #[] }, { accessFlags := 9, nameIndex := 15, descriptorIndex := 16, attributes := #[] }, { accessFlags := 8, nameIndex := 113, descriptorIndex := 114, attributes := #[] }, { accessFlags := 8, nameIndex := 73, descriptorIndex := 74, attributes := #[] }, { accessFlags := 9, nameIndex := 50, descriptorIndex := 51, attributes := #[] }, { accessFlags := 9, nameIndex := 121, descriptorIndex := 122, attributes := #[] }, { accessFlags := 8, nameIndex := 261, descriptorIndex := 262, attributes := #[] }, { accessFlags := 9, nameIndex := 117, descriptorIndex := 122, attributes := #[] }, { accessFlags := 9, nameIndex := 117, descriptorIndex := 118, attributes := #[] }, { accessFlags := 9, nameIndex := 140, descriptorIndex := 141, attributes := #[] }, { accessFlags := 9, nameIndex := 175, descriptorIndex := 99, attributes := #[] }] 48 6 #[] #[{ accessFlags := 26, nameIndex := 61, descriptorIndex := 62, attributes := #[] }, { accessFlags := 26, nameIndex := 65, descriptorIndex := 62, attributes := #[] }, { accessFlags := 24, nameIndex := 430, descriptorIndex := 62, attributes := #[] }, { accessFlags := 4120, nameIndex := 46, descriptorIndex := 47, attributes := #[] }])
  fields := #[{ name := "HI_BYTE_SHIFT", type := .int, accessFlags := 26, slot := 0, constantValue := 0 }, { name := "LO_BYTE_SHIFT", type := .int, accessFlags := 26, slot := 1, constantValue := 0 }, { name := "MAX_LENGTH", type := .int, accessFlags := 24, slot := 2, constantValue := 0 }, { name := "$assertionsDisabled", type := .boolean, accessFlags := 4120, slot := 3, constantValue := 0 }]
  methods := #[k21m0, k21m1, k21m2, k21m3, k21m4, k21m5, k21m6, k21m7, k21m8, k21m9, k21m10, k21m11]
  instanceTypes := #[]
  staticTypes := #[.int, .int, .int, .boolean]
  resolved := Array.replicate 635 none
  statics := some 2 }

def pool22 : Array CpInfo := pool [(2, .class_ 4), (1, u "java/lang/Object"), (0, u "<init>"), (0, u "()V"), (17, .class_ 26), (1, u "jdk/internal/util/Preconditions"), (22, u "checkFromIndexSize"), (5, .class_ 56), (0, u "jdk/internal/util/Preconditions$4"), (57, .class_ 115), (0, u "jdk/internal/util/Preconditions$1"), (7, u "SIOOBE_FORMATTER"), (0, u "Ljava/util/function/BiFunction;"), (0, .class_ 126), (0, u "jdk/internal/util/Preconditions$2"), (3, u "AIOOBE_FORMATTER"), (0, .class_ 132), (0, u "jdk/internal/util/Preconditions$3"), (3, u "IOOBE_FORMATTER"), (46, u "(IIILjava/util/function/BiFunction;)I")] 10

def k22m0 : Method := { name := "<init>", desc := "()V", sig := { parameters := [], returnType := none }, accessFlags := 1, code := none }
def k22c1 : Code := { maxStack := 4, maxLocals := 4, code := jdk_41_method_13_code, exceptionTable := #[], attributes := #[] }
def k22m1 : Method := { name := "checkFromIndexSize", desc := "(IIILjava/util/function/BiFunction;)I", sig := { parameters := [.int, .int, .int, (.object "java/util/function/BiFunction")], returnType := some .int }, accessFlags := 9, code := some k22c1 }
/-- jdk/internal/util/Preconditions -/
def k22 : Class := { plain "jdk/internal/util/Preconditions" (some 0) with
  accessFlags := 33
  interfaces := #[]
  cf := some (fileOf pool22 24 #[.nestMembers #[55, 131, 125, 114]] #[{ accessFlags := 1, nameIndex := 5, descriptorIndex := 6, attributes := #[] }, { accessFlags := 9, nameIndex := 49, descriptorIndex := 183, attributes := #[] }] 33 2 #[] #[{ accessFlags := 25, nameIndex := 123, descriptorIndex := 124, attributes := #[] }, { accessFlags := 25, nameIndex := 130, descriptorIndex := 124, attributes := #[] }, { accessFlags := 25, nameIndex := 136, descriptorIndex := 124, attributes := #[] }])
  fields := #[{ name := "SIOOBE_FORMATTER", type := (.object "java/util/function/BiFunction"), accessFlags := 25, slot := 0, constantValue := 0 }, { name := "AIOOBE_FORMATTER", type := (.object "java/util/function/BiFunction"), accessFlags := 25, slot := 1, constantValue := 0 }, { name := "IOOBE_FORMATTER", type := (.object "java/util/function/BiFunction"), accessFlags := 25, slot := 2, constantValue := 0 }]
  methods := #[k22m0, k22m1]
  instanceTypes := #[]
  staticTypes := #[(.object "java/util/function/BiFunction"), (.object "java/util/function/BiFunction"), (.object "java/util/function/BiFunction")]
  resolved := Array.replicate 194 none
  statics := some 3 }

def pool23 : Array CpInfo := pool [(1, .class_ 2), (0, u "java/lang/Cloneable"), (0, .class_ 4), (0, u "java/lang/Object")] 2

/-- java/lang/Cloneable -/
def k23 : Class := { plain "java/lang/Cloneable" (some 0) with
  accessFlags := 1537
  interfaces := #[]
  cf := some (fileOf pool23 1 #[] #[] 1537 3 #[] #[])
  fields := #[]
  methods := #[]
  instanceTypes := #[]
  staticTypes := #[]
  resolved := Array.replicate 7 none
  statics := none }

def pool24 : Array CpInfo := pool [(2, .class_ 4), (1, u "java/lang/Object"), (0, u "<init>"), (0, u "()V"), (12, .class_ 20), (0, u "java/util/Collections"), (63, u "r"), (0, u "Ljava/util/Random;"), (80, .class_ 167), (0, u "java/util/Collections$UnmodifiableCollection"), (6, .class_ 175), (0, u "java/util/Collections$UnmodifiableSequencedCollection"), (6, .class_ 183), (0, u "java/util/Collections$UnmodifiableSet"), (6, .class_ 191), (0, u "java/util/Collections$UnmodifiableSequencedSet"), (6, .class_ 199), (0, u "java/util/Collections$UnmodifiableSortedSet"), (6, .class_ 207), (0, u "java/util/Collections$UnmodifiableNavigableSet"), (4, .class_ 213), (0, u "java/util/Collections$UnmodifiableList"), (1, .class_ 216), (0, u "java/util/Collections$UnmodifiableRandomAccessList"), (6, .class_ 224), (0, u "java/util/Collections$UnmodifiableMap"), (6, .class_ 232), (0, u "java/util/Collections$UnmodifiableSequencedMap"), (4, .class_ 238), (0, u "java/util/Collections$UnmodifiableSortedMap"), (6, .class_ 246), (0, u "java/util/Collections$UnmodifiableNavigableMap"), (3, .class_ 251), (0, u "java/util/Collections$SynchronizedCollection"), (4, .class_ 257), (0, u "java/util/Collections$SynchronizedSet"), (4, .class_ 263), (0, u "java/util/Collections$SynchronizedSortedSet"), (1, .class_ 266), (0, u "java/util/Collections$SynchronizedNavigableSet"), (1, .class_ 269), (0, u "java/util/Collections$SynchronizedRandomAccessList"), (1, .class_ 272), (0, u "java/util/Collections$SynchronizedList"), (5, .class_ 279), (0, u "java/util/Collections$SynchronizedMap"), (1, .class_ 282), (0, u "java/util/Collections$SynchronizedSortedMap"), (1, .class_ 285), (0, u "java/util/Collections$SynchronizedNavigableMap"), (1, .class_ 288), (0, u "java/util/Collections$CheckedCollection"), (11, .class_ 301), (0, u "java/util/Collections$CheckedQueue"), (3, .class_ 306), (0, u "java/util/Collections$CheckedSet"), (3, .class_ 311), (0, u "java/util/Collections$CheckedSortedSet"), (3, .class_ 316), (0, u "java/util/Collections$CheckedNavigableSet"), (3, .class_ 321), (0, u "java/util/Collections$CheckedRandomAccessList"), (3, .class_ 326), (0, u "java/util/Collections$CheckedList"), (1, .class_ 329), (0, u "java/util/Collections$CheckedMap"), (3, .class_ 334), (0, u "java/util/Collections$CheckedSortedMap"), (3, .class_ 339), (0, u "java/util/Collections$CheckedNavigableMap"), (4, .class_ 346), (1, u "java/util/Collections$EmptyIterator"), (3, .class_ 352), (1, u "java/util/Collections$EmptyListIterator"), (2, .class_ 357), (1, u "java/util/Collections$EmptyEnumeration"), (4, u "EMPTY_SET"), (0, u "Ljava/util/Set;"), (6, u "EMPTY_LIST"), (0, u "Ljava/util/List;"), (2, u "EMPTY_MAP"), (0, u "Ljava/util/Map;"), (4, .class_ 381), (0, u "java/util/Collections$SingletonSet"), (2, .class_ 385), (0, u "java/util/Collections$1"), (1, .class_ 388), (0, u "java/util/Collections$2"), (1, .class_ 391), (0, u "java/util/Collections$SingletonList"), (1, .class_ 394), (0, u "java/util/Collections$SingletonMap"), (22, .class_ 418), (0, u "java/util/Collections$CopiesList"), (4, .class_ 425), (1, u "java/util/Collections$ReverseComparator"), (8, .class_ 435), (0, u "java/util/Collections$ReverseComparator2"), (6, .class_ 443), (0, u "java/util/Collections$3"), (25, .class_ 470), (0, u "java/util/Collections$SetFromMap"), (2, .class_ 474), (0, u "java/util/Collections$SequencedSetFromMap"), (3, .class_ 479), (0, u "java/util/Collections$AsLIFOQueue"), (11, .class_ 492), (0, u "java/util/Collections$EmptySet"), (1, .class_ 495), (0, u "java/util/Collections$EmptyList"), (1, .class_ 498), (0, u "java/util/Collections$EmptyMap"), (1, u "BINARYSEARCH_THRESHOLD"), (0, u "I"), (2, u "REVERSE_THRESHOLD"), (1, u "SHUFFLE_THRESHOLD"), (1, u "FILL_THRESHOLD"), (1, u "ROTATE_THRESHOLD"), (1, u "COPY_THRESHOLD"), (1, u "REPLACEALL_THRESHOLD"), (1, u "INDEXOFSUBLIST_THRESHOLD"), (333, .class_ 851), (0, u "java/util/Collections$CheckedMap$CheckedEntrySet"), (0, .class_ 853), (0, u "java/util/Collections$CheckedMap$CheckedEntrySet$CheckedEntry"), (0, .class_ 855), (0, u "java/util/Collections$CheckedMap$CheckedEntrySet$1"), (0, .class_ 857), (0, u "java/util/Collections$CheckedList$1"), (0, .class_ 859), (0, u "java/util/Collections$CheckedCollection$1"), (0, .class_ 861), (0, u "java/util/Collections$UnmodifiableNavigableMap$EmptyNavigableMap"), (0, .class_ 863), (0, u "java/util/Collections$UnmodifiableMap$UnmodifiableEntrySet"), (0, .class_ 865), (0, u "java/util/Collections$UnmodifiableMap$UnmodifiableEntrySet$UnmodifiableEntry"), (0, .class_ 867), (0, u "java/util/Collections$UnmodifiableMap$UnmodifiableEntrySet$UnmodifiableEntrySetSpliterator"), (0, .class_ 869), (0, u "java/util/Collections$UnmodifiableMap$UnmodifiableEntrySet$1"), (0, .class_ 871), (0, u "java/util/Collections$UnmodifiableList$1"), (0, .class_ 873), (0, u "java/util/Collections$UnmodifiableNavigableSet$EmptyNavigableSet"), (0, .class_ 875), (0, u "java/util/Collections$UnmodifiableCollection$1")] 57

def k24m0 : Method := { name := "<init>", desc := "()V", sig := { parameters := [], returnType := none }, accessFlags := 2, code := none }
/-- java/util/Collections -/
def k24 : Class := { plain "java/util/Collections" (some 0) with
  accessFlags := 33
  interfaces := #[]
  cf := some (fileOf pool24 19 #[.nestMembers #[478, 473, 469, 434, 423, 417, 393, 390, 380, 497, 494, 491, 355, 350, 344, 338, 333, 328, 850, 852, 854, 320, 325, 856, 315, 310, 305, 300, 287, 858, 284, 281, 278, 268, 271, 265, 262, 256, 250, 245, 860, 237, 231, 223, 862, 864, 866, 868, 215, 212, 870, 206, 872, 198, 190, 182, 174, 166, 874, 442, 387, 384]] #[{ accessFlags := 2, nameIndex := 5, descriptorIndex := 6, attributes := #[] }] 33 2 #[] #[{ accessFlags := 26, nameIndex := 500, descriptorIndex := 501, attributes := #[] }, { accessFlags := 26, nameIndex := 504, descriptorIndex := 501, attributes := #[] }, { accessFlags := 26, nameIndex := 506, descriptorIndex := 501, attributes := #[] }, { accessFlags := 26, nameIndex := 508, descriptorIndex := 501, attributes := #[] }, { accessFlags := 26, nameIndex := 510, descriptorIndex := 501, attributes := #[] }, { accessFlags := 26, nameIndex := 512, descriptorIndex := 501, attributes := #[] }, { accessFlags := 26, nameIndex := 514, descriptorIndex := 501, attributes := #[] }, { accessFlags := 26, nameIndex := 516, descriptorIndex := 501, attributes := #[] }, { accessFlags := 10, nameIndex := 84, descriptorIndex := 85, attributes := #[] }, { accessFlags := 25, nameIndex := 362, descriptorIndex := 363, attributes := #[] }, { accessFlags := 25, nameIndex := 370, descriptorIndex := 371, attributes := #[] }, { accessFlags := 25, nameIndex := 374, descriptorIndex := 375, attributes := #[] }])
  fields := #[{ name := "BINARYSEARCH_THRESHOLD", type := .int, accessFlags := 26, slot := 0, constantValue := 0 }, { name := "REVERSE_THRESHOLD", type := .int, accessFlags := 26, slot := 1, constantValue := 0 }, { name := "SHUFFLE_THRESHOLD", type := .int, accessFlags := 26, slot := 2, constantValue := 0 }, { name := "FILL_THRESHOLD", type := .int, accessFlags := 26, slot := 3, constantValue := 0 }, { name := "ROTATE_THRESHOLD", type := .int, accessFlags := 26, slot := 4, constantValue := 0 }, { name := "COPY_THRESHOLD", type := .int, accessFlags := 26, slot := 5, constantValue := 0 }, { name := "REPLACEALL_THRESHOLD", type := .int, accessFlags := 26, slot := 6, constantValue := 0 }, { name := "INDEXOFSUBLIST_THRESHOLD", type := .int, accessFlags := 26, slot := 7, constantValue := 0 }, { name := "r", type := (.object "java/util/Random"), accessFlags := 10, slot := 8, constantValue := 0 }, { name := "EMPTY_SET", type := (.object "java/util/Set"), accessFlags := 25, slot := 9, constantValue := 0 }, { name := "EMPTY_LIST", type := (.object "java/util/List"), accessFlags := 25, slot := 10, constantValue := 0 }, { name := "EMPTY_MAP", type := (.object "java/util/Map"), accessFlags := 25, slot := 11, constantValue := 0 }]
  methods := #[k24m0]
  instanceTypes := #[]
  staticTypes := #[.int, .int, .int, .int, .int, .int, .int, .int, (.object "java/util/Random"), (.object "java/util/Set"), (.object "java/util/List"), (.object "java/util/Map")]
  resolved := Array.replicate 933 none
  statics := some 4 }

def pool25 : Array CpInfo := pool [(8, .class_ 10), (1, u "java/lang/Iterable"), (24, .class_ 36), (0, u "java/lang/Object")] 25

/-- java/lang/Iterable -/
def k25 : Class := { plain "java/lang/Iterable" (some 0) with
  accessFlags := 1537
  interfaces := #[]
  cf := some (fileOf pool25 8 #[] #[] 1537 35 #[] #[])
  fields := #[]
  methods := #[]
  instanceTypes := #[]
  staticTypes := #[]
  resolved := Array.replicate 62 none
  statics := none }

def pool26 : Array CpInfo := pool [(10, .class_ 12), (1, u "java/util/Collection"), (47, .class_ 61), (0, u "java/lang/Object"), (0, .class_ 63), (0, u "java/lang/Iterable")] 51

/-- java/util/Collection -/
def k26 : Class := { plain "java/util/Collection" (some 0) with
  accessFlags := 1537
  interfaces := #[25]
  cf := some (fileOf pool26 10 #[] #[] 1537 60 #[62] #[])
  fields := #[]
  methods := #[]
  instanceTypes := #[]
  staticTypes := #[]
  resolved := Array.replicate 115 none
  statics := none }

def pool27 : Array CpInfo := pool [(2, .class_ 4), (1, u "java/lang/Object"), (0, u "<init>"), (0, u "()V"), (1, .class_ 10), (1, u "java/util/AbstractCollection"), (66, .class_ 78), (0, u "java/util/Collection")] 81

def k27m0 : Method := { name := "<init>", desc := "()V", sig := { parameters := [], returnType := none }, accessFlags := 4, code := none }
/-- java/util/AbstractCollection -/
def k27 : Class := { plain "java/util/AbstractCollection" (some 0) with
  accessFlags := 1057
  interfaces := #[26]
  cf := some (fileOf pool27 8 #[] #[{ accessFlags := 4, nameIndex := 5, descriptorIndex := 6, attributes := #[] }] 1057 2 #[77] #[])
  fields := #[]
  methods := #[k27m0]
  instanceTypes := #[]
  staticTypes := #[]
  resolved := Array.replicate 160 none
  statics := none }

def pool28 : Array CpInfo := pool [(8, .class_ 10), (1, u "java/util/SequencedCollection"), (15, .class_ 27), (0, u "java/lang/Object"), (0, .class_ 29), (0, u "java/util/Collection")] 27

/-- java/util/SequencedCollection -/
def k28 : Class := { plain "java/util/SequencedCollection" (some 0) with
  accessFlags := 1537
  interfaces := #[26]
  cf := some (fileOf pool28 8 #[] #[] 1537 26 #[28] #[])
  fields := #[]
  methods := #[]
  instanceTypes := #[]
  staticTypes := #[]
  resolved := Array.replicate 57 none
  statics := none }

def pool29 : Array CpInfo := pool [(8, .class_ 10), (1, u "java/util/List"), (92, .class_ 104), (0, u "java/lang/Object"), (15, .class_ 121), (0, u "java/util/SequencedCollection")] 129

/-- java/util/List -/
def k29 : Class := { plain "java/util/List" (some 0) with
  accessFlags := 1537
  interfaces := #[28]
  cf := some (fileOf pool29 8 #[] #[] 1537 103 #[120] #[])
  fields := #[]
  methods := #[]
  instanceTypes := #[]
  staticTypes := #[]
  resolved := Array.replicate 251 none
  statics := none }

def pool30 : Array CpInfo := pool [(2, .class_ 4), (1, u "java/util/AbstractCollection"), (0, u "<init>"), (0, u "()V"), (1, .class_ 10), (1, u "java/util/AbstractList"), (0, u "modCount"), (0, u "I"), (64, .class_ 78), (0, u "java/util/AbstractList$Itr"), (3, .class_ 83), (0, u "java/util/AbstractList$ListItr"), (9, .class_ 94), (0, u "java/util/AbstractList$RandomAccessSubList"), (3, .class_ 99), (0, u "java/util/AbstractList$SubList"), (33, .class_ 134), (0, u "java/util/List"), (73, .class_ 209), (0, u "java/util/AbstractList$SubList$1"), (0, .class_ 211), (0, u "java/util/AbstractList$RandomAccessSpliterator")] 6

def k30m0 : Method := { name := "<init>", desc := "()V", sig := { parameters := [], returnType := none }, accessFlags := 4, code := none }
/-- java/util/AbstractList -/
def k30 : Class := { plain "java/util/AbstractList" (some 27) with
  accessFlags := 1057
  interfaces := #[29]
  cf := some (fileOf pool30 8 #[.nestMembers #[93, 98, 208, 210, 82, 77]] #[{ accessFlags := 4, nameIndex := 5, descriptorIndex := 6, attributes := #[] }] 1057 2 #[133] #[{ accessFlags := 132, nameIndex := 11, descriptorIndex := 12, attributes := #[] }])
  fields := #[{ name := "modCount", type := .int, accessFlags := 132, slot := 0, constantValue := 0 }]
  methods := #[k30m0]
  instanceTypes := #[.int]
  staticTypes := #[]
  resolved := Array.replicate 218 none
  statics := none }

def pool31 : Array CpInfo := pool [(1, .class_ 2), (0, u "java/util/RandomAccess"), (0, .class_ 4), (0, u "java/lang/Object")] 2

/-- java/util/RandomAccess -/
def k31 : Class := { plain "java/util/RandomAccess" (some 0) with
  accessFlags := 1537
  interfaces := #[]
  cf := some (fileOf pool31 1 #[] #[] 1537 3 #[] #[])
  fields := #[]
  methods := #[]
  instanceTypes := #[]
  staticTypes := #[]
  resolved := Array.replicate 7 none
  statics := none }

def pool32 : Array CpInfo := pool [(2, .class_ 4), (1, u "java/util/AbstractList"), (0, u "<init>"), (0, u "()V"), (1, .class_ 10), (1, u "java/util/Collections"), (54, .class_ 66), (0, u "java/util/Collections$EmptyList"), (0, .class_ 68), (0, u "java/util/RandomAccess"), (0, .class_ 70), (0, u "java/io/Serializable"), (0, u "serialVersionUID"), (0, u "J")] 77

def k32m0 : Method := { name := "<init>", desc := "()V", sig := { parameters := [], returnType := none }, accessFlags := 2, code := none }
/-- java/util/Collections$EmptyList -/
def k32 : Class := { plain "java/util/Collections$EmptyList" (some 30) with
  accessFlags := 32
  interfaces := #[31, 2]
  cf := some (fileOf pool32 65 #[.nestHost 8] #[{ accessFlags := 2, nameIndex := 5, descriptorIndex := 6, attributes := #[] }] 32 2 #[67, 69] #[{ accessFlags := 26, nameIndex := 71, descriptorIndex := 72, attributes := #[] }])
  fields := #[{ name := "serialVersionUID", type := .long, accessFlags := 26, slot := 0, constantValue := 0 }]
  methods := #[k32m0]
  instanceTypes := #[.int]
  staticTypes := #[.long]
  resolved := Array.replicate 150 none
  statics := none }

def pool33 : Array CpInfo := pool [(2, .class_ 4), (1, u "java/lang/StackTraceElement"), (0, u "<init>"), (2, .class_ 10), (1, u "java/lang/Object"), (0, u "()V"), (2, u "format"), (0, u "B"), (2, u "classLoaderName"), (0, u "Ljava/lang/String;"), (2, u "moduleName"), (2, u "moduleVersion"), (12, u "declaringClass"), (4, u "methodName"), (2, u "fileName"), (2, u "lineNumber"), (0, u "I"), (65, u "declaringClassObject"), (0, u "Ljava/lang/Class;"), (33, .class_ 153), (1, u "java/lang/StackTraceElement$HashedModules"), (17, .class_ 172), (0, u "java/io/Serializable"), (0, u "NATIVE_METHOD"), (1, u "UNKNOWN_SOURCE"), (2, u "BUILTIN_CLASS_LOADER"), (1, u "JDK_NON_UPGRADEABLE_MODULE"), (1, u "serialVersionUID"), (0, u "J")] 51

def k33m0 : Method := { name := "<init>", desc := "()V", sig := { parameters := [], returnType := none }, accessFlags := 2, code := none }
/-- java/lang/StackTraceElement -/
def k33 : Class := { plain "java/lang/StackTraceElement" (some 0) with
  accessFlags := 49
  interfaces := #[2]
  cf := some (fileOf pool33 2 #[.nestMembers #[151]] #[{ accessFlags := 2, nameIndex := 5, descriptorIndex := 11, attributes := #[] }] 49 8 #[171] #[{ accessFlags := 26, nameIndex := 173, descriptorIndex := 19, attributes := #[] }, { accessFlags := 26, nameIndex := 175, descriptorIndex := 19, attributes := #[] }, { accessFlags := 130, nameIndex := 116, descriptorIndex := 117, attributes := #[] }, { accessFlags := 2, nameIndex := 18, descriptorIndex := 19, attributes := #[] }, { accessFlags := 2, nameIndex := 22, descriptorIndex := 19, attributes := #[] }, { accessFlags := 2, nameIndex := 25, descriptorIndex := 19, attributes := #[] }, { accessFlags := 2, nameIndex := 38, descriptorIndex := 19, attributes := #[] }, { accessFlags := 2, nameIndex := 43, descriptorIndex := 19, attributes := #[] }, { accessFlags := 2, nameIndex := 46, descriptorIndex := 19, attributes := #[] }, { accessFlags := 2, nameIndex := 49, descriptorIndex := 50, attributes := #[] }, { accessFlags := 2, nameIndex := 14, descriptorIndex := 15, attributes := #[] }, { accessFlags := 26, nameIndex := 178, descriptorIndex := 15, attributes := #[] }, { accessFlags := 26, nameIndex := 180, descriptorIndex := 15, attributes := #[] }, { accessFlags := 26, nameIndex := 182, descriptorIndex := 183, attributes := #[] }])
  fields := #[{ name := "NATIVE_METHOD", type := (.object "java/lang/String"), accessFlags := 26, slot := 0, constantValue := 0 }, { name := "UNKNOWN_SOURCE", type := (.object "java/lang/String"), accessFlags := 26, slot := 1, constantValue := 0 }, { name := "declaringClassObject", type := (.object "java/lang/Class"), accessFlags := 130, slot := 0, constantValue := 0 }, { name := "classLoaderName", type := (.object "java/lang/String"), accessFlags := 2, slot := 1, constantValue := 0 }, { name := "moduleName", type := (.object "java/lang/String"), accessFlags := 2, slot := 2, constantValue := 0 }, { name := "moduleVersion", type := (.object "java/lang/String"), accessFlags := 2, slot := 3, constantValue := 0 }, { name := "declaringClass", type := (.object "java/lang/String"), accessFlags := 2, slot := 4, constantValue := 0 }, { name := "methodName", type := (.object "java/lang/String"), accessFlags := 2, slot := 5, constantValue := 0 }, { name := "fileName", type := (.object "java/lang/String"), accessFlags := 2, slot := 6, constantValue := 0 }, { name := "lineNumber", type := .int, accessFlags := 2, slot := 7, constantValue := 0 }, { name := "format", type := .byte, accessFlags := 2, slot := 8, constantValue := 0 }, { name := "BUILTIN_CLASS_LOADER", type := .byte, accessFlags := 26, slot := 2, constantValue := 0 }, { name := "JDK_NON_UPGRADEABLE_MODULE", type := .byte, accessFlags := 26, slot := 3, constantValue := 0 }, { name := "serialVersionUID", type := .long, accessFlags := 26, slot := 4, constantValue := 0 }]
  methods := #[k33m0]
  instanceTypes := #[(.object "java/lang/Class"), (.object "java/lang/String"), (.object "java/lang/String"), (.object "java/lang/String"), (.object "java/lang/String"), (.object "java/lang/String"), (.object "java/lang/String"), .int, .byte]
  staticTypes := #[(.object "java/lang/String"), (.object "java/lang/String"), .byte, .byte, .long]
  resolved := Array.replicate 235 none
  statics := none }

/-- the primitive byte -/
def k34 : Class := { plain "byte" none with kind := .primitive 'B', accessFlags := 0x411 }
/-- [B -/
def k35 : Class := { plain "[B" (some 0) with kind := .array 34 .byte, interfaces := #[23, 2], accessFlags := 1041 }

/-- the primitive char -/
def k36 : Class := { plain "char" none with kind := .primitive 'C', accessFlags := 0x411 }
/-- [C -/
def k37 : Class := { plain "[C" (some 0) with kind := .array 36 .char, interfaces := #[23, 2], accessFlags := 1041 }

/-- the primitive int -/
def k38 : Class := { plain "int" none with kind := .primitive 'I', accessFlags := 0x411 }
/-- [I -/
def k39 : Class := { plain "[I" (some 0) with kind := .array 38 .int, interfaces := #[23, 2], accessFlags := 1041 }

/-- [Ljava/lang/Object; -/
def k40 : Class := { plain "[Ljava/lang/Object;" (some 0) with kind := .array 0 (.object "java/lang/Object"), interfaces := #[23, 2], accessFlags := 1041 }

/-- [Ljava/lang/StackTraceElement; -/
def k41 : Class := { plain "[Ljava/lang/StackTraceElement;" (some 0) with kind := .array 33 (.object "java/lang/StackTraceElement"), interfaces := #[23, 2], accessFlags := 1041 }

/-- [Ljava/lang/Throwable; -/
def k42 : Class := { plain "[Ljava/lang/Throwable;" (some 0) with kind := .array 9 (.object "java/lang/Throwable"), interfaces := #[23, 2], accessFlags := 1041 }

def heap : Heap := #[{ cls := 7, slots := #[.long 0, .int 1, .null, .int 0, .null, .int 0, .int 0], vm := .statics 7 },
  { cls := 9, slots := #[.long 0, .ref 5, .ref 6, .null, .null, .null, .null, .ref 7, .int 1], vm := .statics 9 },
  { cls := 21, slots := #[.int 0, .int 8, .int 0, .int 1], vm := .statics 21 },
  { cls := 22, slots := #[.null, .null, .null], vm := .statics 22 },
  { cls := 24, slots := #[.int 0, .int 0, .int 0, .int 0, .int 0, .int 0, .int 0, .int 0, .null, .null, .ref 6, .null], vm := .statics 24 },
  { cls := 41, slots := #[], vm := .none },
  { cls := 32, slots := #[.int 0], vm := .none },
  { cls := 42, slots := #[], vm := .none }]
def classes : Array Class := #[k0, k1, k2, k3, k4, k5, k6, k7, k8, k9, k10, k11, k12, k13, k14, k15, k16, k17, k18, k19, k20, k21, k22, k23, k24, k25, k26, k27, k28, k29, k30, k31, k32, k33, k34, k35, k36, k37, k38, k39, k40, k41, k42]
def interned : List (Array UInt16 × Addr) := []
def slotsUsed : Nat := 36
def theMethod : MethodId := ⟨1, 1⟩
def args0 : Array Value := #[.int 5, .int 5, .int 5, .int 5, .int 5]
def aboutOver (below : List Frame) : State where
  vm := { classes := classes, interned := interned.toArray }
  heap := heap
  slotsUsed := slotsUsed
  threads := #[{ frames := .invoking theMethod args0 :: below }]
def below0 : List Frame := [.native { method := ⟨0, 0⟩, args := #[] }]
def about1 : State := aboutOver below0
def p0 : Program := .bare "" "" ""
def e0 : Env := launch0.env 0 0 0
theorem w_frames : about1.frames = Frame.invoking theMethod args0 :: below0 := rfl
set_option maxRecDepth 65536 in
theorem w_args : argsFit about1.vm theMethod args0 = true := by decide +kernel
set_option maxRecDepth 65536 in
theorem w_heap : heapFits about1 = true := by decide +kernel
set_option maxRecDepth 65536 in
theorem w_runnable : about1.curStatus? = some .runnable := by decide +kernel
set_option maxRecDepth 65536 in
theorem w_alone : about1.alone = true := by decide +kernel
set_option maxRecDepth 65536 in
theorem w_named : about1.methodNamed? x = some theMethod := by decide +kernel
set_option maxRecDepth 65536 in
theorem w_hears : about1.hears theMethod below0 = true := by decide +kernel
set_option maxRecDepth 65536 in
theorem w_ripe : about1.ripe theMethod args0 below0 = true := by decide +kernel
theorem w_running : about1.status = .running := rfl
set_option maxRecDepth 65536 in
theorem w_room : about1.hasRoom e0.platform room_1 = true :=
  launch0.hasRoom_least _ room_1 (by decide +kernel) (by decide +kernel) (by decide +kernel) (by decide +kernel) (by decide +kernel) (by decide +kernel)
theorem allAtoms_all (ts : List Jvm.Cond) (a : Array Jvm.Value) (st : Jvm.State) : (allAtoms ts).before a st = ts.all (fun c => c.before a st) := by
  induction ts with
  | nil => rfl
  | cons c t ih =>
    show (Jvm.Cond.and c (allAtoms t)).before a st = _
    rw [Jvm.Cond.before_and, ih, List.all_cons]
def words1 : List Jvm.Cond := Jvm.Cond.code x code maxLocals ret :: tables_1
/-- a 'code' word, met by the world's own term for the bytes: nothing is compared byte by byte -/
theorem code_word {y : MethodName} {bytes : ByteArray} {mx : Nat} {rt : Option FieldType} {a : Array Value} {s : State} {m : MethodId} {meth : Method} {c : Code} (h1 : s.methodNamed? y = some m) (h2 : s.vm.method? m = some meth) (h3 : meth.code = some c) (h4 : c.code = bytes)
    (h5 : (c.maxLocals == mx && c.exceptionTable.isEmpty && decide (c.maxStack ≤ mostOperands) && decide (meth.sig.returnType = rt) && !meth.locks && decide (parseMethodDescriptor y.desc = some meth.sig)) = true) : (Jvm.Cond.code y bytes mx rt).before a s = true := by
  simp only [Bool.and_eq_true, beq_iff_eq, Bool.not_eq_true', decide_eq_true_eq] at h5
  obtain ⟨⟨⟨⟨⟨g1, g2⟩, g3⟩, g4⟩, g5⟩, g6⟩ := h5
  simp [Cond.before, Cond.holds, Cond.value, h1, h2, h3, h4, g1, g2, g3, g4, g5, g6]
def isCode : Jvm.Cond → Bool
  | .code _ _ _ _ => true
  | _ => false
theorem all_split {L : List Jvm.Cond} {P : Jvm.Cond → Bool} (h1 : L.all (fun c => isCode c || P c) = true) (h2 : ∀ c ∈ L.filter isCode, P c = true) : L.all P = true := by
  refine List.all_eq_true.mpr fun c hc => ?_
  have h := List.all_eq_true.mp h1 c hc
  rcases Bool.eq_false_or_eq_true (isCode c) with hi | hi
  · exact h2 c (List.mem_filter.mpr ⟨hc, hi⟩)
  · simpa [hi] using h
set_option maxRecDepth 65536 in
theorem w_c0 : (Jvm.Cond.code x code maxLocals ret).before args0 about1 = true := code_word (m := ⟨1, 1⟩) (meth := k1m1) (c := k1c1) (by decide +kernel) rfl rfl rfl (by decide +kernel)
set_option maxRecDepth 65536 in
theorem w_c1 : (Jvm.Cond.code ({ cls := "com/example/vanth/vanth/PhaseGraphNoSuchPhasePinLaw", name := "drawn", desc := "(ICCC)Ljava/lang/String;" } : Jvm.MethodName) method_3_code (4 : Nat) (Option.some (Jvm.ClassFile.FieldType.object "java/lang/String"))).before args0 about1 = true := code_word (m := ⟨1, 2⟩) (meth := k1m2) (c := k1c2) (by decide +kernel) rfl rfl rfl (by decide +kernel)
set_option maxRecDepth 65536 in
theorem w_c2 : (Jvm.Cond.code ({ cls := "java/lang/String", name := "<init>", desc := "([C)V" } : Jvm.MethodName) jdk_42_method_3_code (2 : Nat) (Option.none : Option Jvm.ClassFile.FieldType)).before args0 about1 = true := code_word (m := ⟨7, 1⟩) (meth := k7m1) (c := k7c1) (by decide +kernel) rfl rfl rfl (by decide +kernel)
set_option maxRecDepth 65536 in
theorem w_c3 : (Jvm.Cond.code ({ cls := "java/lang/String", name := "<init>", desc := "([CIILjava/lang/Void;)V" } : Jvm.MethodName) jdk_42_method_149_code (6 : Nat) (Option.none : Option Jvm.ClassFile.FieldType)).before args0 about1 = true := code_word (m := ⟨7, 6⟩) (meth := k7m6) (c := k7c6) (by decide +kernel) rfl rfl rfl (by decide +kernel)
set_option maxRecDepth 65536 in
theorem w_c4 : (Jvm.Cond.code ({ cls := "java/lang/Object", name := "<init>", desc := "()V" } : Jvm.MethodName) object_method_1_code (1 : Nat) (Option.none : Option Jvm.ClassFile.FieldType)).before args0 about1 = true := code_word (m := ⟨0, 0⟩) (meth := k0m0) (c := k0c0) (by decide +kernel) rfl rfl rfl (by decide +kernel)
set_option maxRecDepth 65536 in
theorem w_c5 : (Jvm.Cond.code ({ cls := "com/example/vanth/vanth/PhaseGraphNoSuchPhasePinLaw", name := "expected", desc := "(ICCC)Ljava/lang/String;" } : Jvm.MethodName) method_4_code (4 : Nat) (Option.some (Jvm.ClassFile.FieldType.object "java/lang/String"))).before args0 about1 = true := code_word (m := ⟨1, 3⟩) (meth := k1m3) (c := k1c3) (by decide +kernel) rfl rfl rfl (by decide +kernel)
set_option maxRecDepth 65536 in
theorem w_c6 : (Jvm.Cond.code ({ cls := "com/example/vanth/vanth/PhaseGraph", name := "noSuchPhase", desc := "(Ljava/lang/String;)Ljava/lang/IllegalArgumentException;" } : Jvm.MethodName) prog_2_method_9_code (1 : Nat) (Option.some (Jvm.ClassFile.FieldType.object "java/lang/IllegalArgumentException"))).before args0 about1 = true := code_word (m := ⟨8, 1⟩) (meth := k8m1) (c := k8c1) (by decide +kernel) rfl rfl rfl (by decide +kernel)
set_option maxRecDepth 65536 in
theorem w_c7 : (Jvm.Cond.code ({ cls := "java/lang/StringBuilder", name := "<init>", desc := "()V" } : Jvm.MethodName) jdk_67_method_1_code (1 : Nat) (Option.none : Option Jvm.ClassFile.FieldType)).before args0 about1 = true := code_word (m := ⟨15, 0⟩) (meth := k15m0) (c := k15c0) (by decide +kernel) rfl rfl rfl (by decide +kernel)
set_option maxRecDepth 65536 in
theorem w_c8 : (Jvm.Cond.code ({ cls := "java/lang/AbstractStringBuilder", name := "<init>", desc := "(I)V" } : Jvm.MethodName) jdk_68_method_2_code (2 : Nat) (Option.none : Option Jvm.ClassFile.FieldType)).before args0 about1 = true := code_word (m := ⟨14, 1⟩) (meth := k14m1) (c := k14c1) (by decide +kernel) rfl rfl rfl (by decide +kernel)
set_option maxRecDepth 65536 in
theorem w_c9 : (Jvm.Cond.code ({ cls := "java/lang/StringBuilder", name := "append", desc := "(Ljava/lang/String;)Ljava/lang/StringBuilder;" } : Jvm.MethodName) jdk_67_method_7_code (2 : Nat) (Option.some (Jvm.ClassFile.FieldType.object "java/lang/StringBuilder"))).before args0 about1 = true := code_word (m := ⟨15, 1⟩) (meth := k15m1) (c := k15c1) (by decide +kernel) rfl rfl rfl (by decide +kernel)
set_option maxRecDepth 65536 in
theorem w_c10 : (Jvm.Cond.code ({ cls := "java/lang/AbstractStringBuilder", name := "append", desc := "(Ljava/lang/String;)Ljava/lang/AbstractStringBuilder;" } : Jvm.MethodName) jdk_68_method_22_code (3 : Nat) (Option.some (Jvm.ClassFile.FieldType.object "java/lang/AbstractStringBuilder"))).before args0 about1 = true := code_word (m := ⟨14, 6⟩) (meth := k14m6) (c := k14c6) (by decide +kernel) rfl rfl rfl (by decide +kernel)
set_option maxRecDepth 65536 in
theorem w_c11 : (Jvm.Cond.code ({ cls := "java/lang/String", name := "length", desc := "()I" } : Jvm.MethodName) jdk_42_method_54_code (1 : Nat) (Option.some Jvm.ClassFile.FieldType.int)).before args0 about1 = true := code_word (m := ⟨7, 3⟩) (meth := k7m3) (c := k7c3) (by decide +kernel) rfl rfl rfl (by decide +kernel)
set_option maxRecDepth 65536 in
theorem w_c12 : (Jvm.Cond.code ({ cls := "java/lang/String", name := "coder", desc := "()B" } : Jvm.MethodName) jdk_42_method_152_code (1 : Nat) (Option.some Jvm.ClassFile.FieldType.byte)).before args0 about1 = true := code_word (m := ⟨7, 8⟩) (meth := k7m8) (c := k7c8) (by decide +kernel) rfl rfl rfl (by decide +kernel)
set_option maxRecDepth 65536 in
theorem w_c13 : (Jvm.Cond.code ({ cls := "java/lang/AbstractStringBuilder", name := "ensureCapacityInternal", desc := "(I)V" } : Jvm.MethodName) jdk_68_method_9_code (3 : Nat) (Option.none : Option Jvm.ClassFile.FieldType)).before args0 about1 = true := code_word (m := ⟨14, 3⟩) (meth := k14m3) (c := k14c3) (by decide +kernel) rfl rfl rfl (by decide +kernel)
set_option maxRecDepth 65536 in
theorem w_c14 : (Jvm.Cond.code ({ cls := "java/lang/AbstractStringBuilder", name := "putStringAt", desc := "(ILjava/lang/String;)V" } : Jvm.MethodName) jdk_68_method_73_code (3 : Nat) (Option.none : Option Jvm.ClassFile.FieldType)).before args0 about1 = true := code_word (m := ⟨14, 11⟩) (meth := k14m11) (c := k14c11) (by decide +kernel) rfl rfl rfl (by decide +kernel)
set_option maxRecDepth 65536 in
theorem w_c15 : (Jvm.Cond.code ({ cls := "java/lang/AbstractStringBuilder", name := "inflateIfNeededFor", desc := "(Ljava/lang/String;)V" } : Jvm.MethodName) jdk_68_method_71_code (2 : Nat) (Option.none : Option Jvm.ClassFile.FieldType)).before args0 about1 = true := code_word (m := ⟨14, 10⟩) (meth := k14m10) (c := k14c10) (by decide +kernel) rfl rfl rfl (by decide +kernel)
set_option maxRecDepth 65536 in
theorem w_c16 : (Jvm.Cond.code ({ cls := "java/lang/String", name := "getBytes", desc := "([BIB)V" } : Jvm.MethodName) jdk_42_method_147_code (4 : Nat) (Option.none : Option Jvm.ClassFile.FieldType)).before args0 about1 = true := code_word (m := ⟨7, 5⟩) (meth := k7m5) (c := k7c5) (by decide +kernel) rfl rfl rfl (by decide +kernel)
set_option maxRecDepth 65536 in
theorem w_c17 : (Jvm.Cond.code ({ cls := "java/lang/StringBuilder", name := "toString", desc := "()Ljava/lang/String;" } : Jvm.MethodName) jdk_67_method_42_code (1 : Nat) (Option.some (Jvm.ClassFile.FieldType.object "java/lang/String"))).before args0 about1 = true := code_word (m := ⟨15, 2⟩) (meth := k15m2) (c := k15c2) (by decide +kernel) rfl rfl rfl (by decide +kernel)
set_option maxRecDepth 65536 in
theorem w_c18 : (Jvm.Cond.code ({ cls := "java/lang/String", name := "<init>", desc := "(Ljava/lang/StringBuilder;)V" } : Jvm.MethodName) jdk_42_method_53_code (2 : Nat) (Option.none : Option Jvm.ClassFile.FieldType)).before args0 about1 = true := code_word (m := ⟨7, 2⟩) (meth := k7m2) (c := k7c2) (by decide +kernel) rfl rfl rfl (by decide +kernel)
set_option maxRecDepth 65536 in
theorem w_c19 : (Jvm.Cond.code ({ cls := "java/lang/String", name := "<init>", desc := "(Ljava/lang/AbstractStringBuilder;Ljava/lang/Void;)V" } : Jvm.MethodName) jdk_42_method_150_code (5 : Nat) (Option.none : Option Jvm.ClassFile.FieldType)).before args0 about1 = true := code_word (m := ⟨7, 7⟩) (meth := k7m7) (c := k7c7) (by decide +kernel) rfl rfl rfl (by decide +kernel)
set_option maxRecDepth 65536 in
theorem w_c20 : (Jvm.Cond.code ({ cls := "java/lang/AbstractStringBuilder", name := "getValue", desc := "()[B" } : Jvm.MethodName) jdk_68_method_64_code (1 : Nat) (Option.some (Jvm.ClassFile.FieldType.array Jvm.ClassFile.FieldType.byte))).before args0 about1 = true := code_word (m := ⟨14, 8⟩) (meth := k14m8) (c := k14c8) (by decide +kernel) rfl rfl rfl (by decide +kernel)
set_option maxRecDepth 65536 in
theorem w_c21 : (Jvm.Cond.code ({ cls := "java/lang/StringBuilder", name := "length", desc := "()I" } : Jvm.MethodName) jdk_67_method_93_code (1 : Nat) (Option.some Jvm.ClassFile.FieldType.int)).before args0 about1 = true := code_word (m := ⟨15, 3⟩) (meth := k15m3) (c := k15c3) (by decide +kernel) rfl rfl rfl (by decide +kernel)
set_option maxRecDepth 65536 in
theorem w_c22 : (Jvm.Cond.code ({ cls := "java/lang/AbstractStringBuilder", name := "length", desc := "()I" } : Jvm.MethodName) jdk_68_method_6_code (1 : Nat) (Option.some Jvm.ClassFile.FieldType.int)).before args0 about1 = true := code_word (m := ⟨14, 2⟩) (meth := k14m2) (c := k14c2) (by decide +kernel) rfl rfl rfl (by decide +kernel)
set_option maxRecDepth 65536 in
theorem w_c23 : (Jvm.Cond.code ({ cls := "java/lang/AbstractStringBuilder", name := "isLatin1", desc := "()Z" } : Jvm.MethodName) jdk_68_method_68_code (1 : Nat) (Option.some Jvm.ClassFile.FieldType.boolean)).before args0 about1 = true := code_word (m := ⟨14, 9⟩) (meth := k14m9) (c := k14c9) (by decide +kernel) rfl rfl rfl (by decide +kernel)
set_option maxRecDepth 65536 in
theorem w_c24 : (Jvm.Cond.code ({ cls := "java/util/Arrays", name := "copyOfRange", desc := "([BII)[B" } : Jvm.MethodName) jdk_65_method_132_code (3 : Nat) (Option.some (Jvm.ClassFile.FieldType.array Jvm.ClassFile.FieldType.byte))).before args0 about1 = true := code_word (m := ⟨17, 3⟩) (meth := k17m3) (c := k17c3) (by decide +kernel) rfl rfl rfl (by decide +kernel)
set_option maxRecDepth 65536 in
theorem w_c25 : (Jvm.Cond.code ({ cls := "java/util/Arrays", name := "copyOfRangeByte", desc := "([BII)[B" } : Jvm.MethodName) jdk_65_method_133_code (5 : Nat) (Option.some (Jvm.ClassFile.FieldType.array Jvm.ClassFile.FieldType.byte))).before args0 about1 = true := code_word (m := ⟨17, 4⟩) (meth := k17m4) (c := k17c4) (by decide +kernel) rfl rfl rfl (by decide +kernel)
set_option maxRecDepth 65536 in
theorem w_c26 : (Jvm.Cond.code ({ cls := "java/util/Arrays", name := "checkLength", desc := "(II)V" } : Jvm.MethodName) jdk_65_method_131_code (2 : Nat) (Option.none : Option Jvm.ClassFile.FieldType)).before args0 about1 = true := code_word (m := ⟨17, 2⟩) (meth := k17m2) (c := k17c2) (by decide +kernel) rfl rfl rfl (by decide +kernel)
set_option maxRecDepth 65536 in
theorem w_c27 : (Jvm.Cond.code ({ cls := "java/lang/Math", name := "min", desc := "(II)I" } : Jvm.MethodName) jdk_29_method_69_code (2 : Nat) (Option.some Jvm.ClassFile.FieldType.int)).before args0 about1 = true := code_word (m := ⟨18, 2⟩) (meth := k18m2) (c := k18c2) (by decide +kernel) rfl rfl rfl (by decide +kernel)
set_option maxRecDepth 65536 in
theorem w_c28 : (Jvm.Cond.code ({ cls := "java/lang/IllegalArgumentException", name := "<init>", desc := "(Ljava/lang/String;)V" } : Jvm.MethodName) jdk_57_method_2_code (2 : Nat) (Option.none : Option Jvm.ClassFile.FieldType)).before args0 about1 = true := code_word (m := ⟨12, 1⟩) (meth := k12m1) (c := k12c1) (by decide +kernel) rfl rfl rfl (by decide +kernel)
set_option maxRecDepth 65536 in
theorem w_c29 : (Jvm.Cond.code ({ cls := "java/lang/RuntimeException", name := "<init>", desc := "(Ljava/lang/String;)V" } : Jvm.MethodName) jdk_58_method_2_code (2 : Nat) (Option.none : Option Jvm.ClassFile.FieldType)).before args0 about1 = true := code_word (m := ⟨11, 1⟩) (meth := k11m1) (c := k11c1) (by decide +kernel) rfl rfl rfl (by decide +kernel)
set_option maxRecDepth 65536 in
theorem w_c30 : (Jvm.Cond.code ({ cls := "java/lang/Exception", name := "<init>", desc := "(Ljava/lang/String;)V" } : Jvm.MethodName) jdk_59_method_2_code (2 : Nat) (Option.none : Option Jvm.ClassFile.FieldType)).before args0 about1 = true := code_word (m := ⟨10, 1⟩) (meth := k10m1) (c := k10c1) (by decide +kernel) rfl rfl rfl (by decide +kernel)
set_option maxRecDepth 65536 in
theorem w_c31 : (Jvm.Cond.code ({ cls := "java/lang/Throwable", name := "<init>", desc := "(Ljava/lang/String;)V" } : Jvm.MethodName) jdk_78_method_2_code (2 : Nat) (Option.none : Option Jvm.ClassFile.FieldType)).before args0 about1 = true := code_word (m := ⟨9, 1⟩) (meth := k9m1) (c := k9c1) (by decide +kernel) rfl rfl rfl (by decide +kernel)
set_option maxRecDepth 65536 in
theorem w_c32 : (Jvm.Cond.code ({ cls := "java/lang/Throwable", name := "<init>", desc := "()V" } : Jvm.MethodName) jdk_78_method_1_code (1 : Nat) (Option.none : Option Jvm.ClassFile.FieldType)).before args0 about1 = true := code_word (m := ⟨9, 0⟩) (meth := k9m0) (c := k9c0) (by decide +kernel) rfl rfl rfl (by decide +kernel)
set_option maxRecDepth 65536 in
theorem w_c33 : (Jvm.Cond.code ({ cls := "java/lang/Throwable", name := "getMessage", desc := "()Ljava/lang/String;" } : Jvm.MethodName) jdk_78_method_6_code (1 : Nat) (Option.some (Jvm.ClassFile.FieldType.object "java/lang/String"))).before args0 about1 = true := code_word (m := ⟨9, 2⟩) (meth := k9m2) (c := k9c2) (by decide +kernel) rfl rfl rfl (by decide +kernel)
set_option maxRecDepth 65536 in
theorem w_c34 : (Jvm.Cond.code ({ cls := "java/lang/String", name := "equals", desc := "(Ljava/lang/Object;)Z" } : Jvm.MethodName) jdk_42_method_66_code (3 : Nat) (Option.some Jvm.ClassFile.FieldType.boolean)).before args0 about1 = true := code_word (m := ⟨7, 4⟩) (meth := k7m4) (c := k7c4) (by decide +kernel) rfl rfl rfl (by decide +kernel)
set_option maxRecDepth 65536 in
theorem w_c35 : (Jvm.Cond.code ({ cls := "java/lang/StringLatin1", name := "equals", desc := "([B[B)Z" } : Jvm.MethodName) jdk_43_method_13_code (3 : Nat) (Option.some Jvm.ClassFile.FieldType.boolean)).before args0 about1 = true := code_word (m := ⟨19, 1⟩) (meth := k19m1) (c := k19c1) (by decide +kernel) rfl rfl rfl (by decide +kernel)
set_option maxRecDepth 65536 in
theorem w_c36 : (Jvm.Cond.code ({ cls := "java/lang/AbstractStringBuilder", name := "appendNull", desc := "()Ljava/lang/AbstractStringBuilder;" } : Jvm.MethodName) jdk_68_method_26_code (3 : Nat) (Option.some (Jvm.ClassFile.FieldType.object "java/lang/AbstractStringBuilder"))).before args0 about1 = true := code_word (m := ⟨14, 7⟩) (meth := k14m7) (c := k14c7) (by decide +kernel) rfl rfl rfl (by decide +kernel)
set_option maxRecDepth 65536 in
theorem w_c37 : (Jvm.Cond.code ({ cls := "java/lang/AbstractStringBuilder", name := "newCapacity", desc := "(I)I" } : Jvm.MethodName) jdk_68_method_10_code (6 : Nat) (Option.some Jvm.ClassFile.FieldType.int)).before args0 about1 = true := code_word (m := ⟨14, 4⟩) (meth := k14m4) (c := k14c4) (by decide +kernel) rfl rfl rfl (by decide +kernel)
set_option maxRecDepth 65536 in
theorem w_c38 : (Jvm.Cond.code ({ cls := "jdk/internal/util/ArraysSupport", name := "newLength", desc := "(III)I" } : Jvm.MethodName) jdk_48_method_27_code (4 : Nat) (Option.some Jvm.ClassFile.FieldType.int)).before args0 about1 = true := code_word (m := ⟨20, 1⟩) (meth := k20m1) (c := k20c1) (by decide +kernel) rfl rfl rfl (by decide +kernel)
set_option maxRecDepth 65536 in
theorem w_c39 : (Jvm.Cond.code ({ cls := "java/lang/Math", name := "max", desc := "(II)I" } : Jvm.MethodName) jdk_29_method_65_code (2 : Nat) (Option.some Jvm.ClassFile.FieldType.int)).before args0 about1 = true := code_word (m := ⟨18, 1⟩) (meth := k18m1) (c := k18c1) (by decide +kernel) rfl rfl rfl (by decide +kernel)
set_option maxRecDepth 65536 in
theorem w_c40 : (Jvm.Cond.code ({ cls := "java/util/Arrays", name := "copyOf", desc := "([BI)[B" } : Jvm.MethodName) jdk_65_method_121_code (3 : Nat) (Option.some (Jvm.ClassFile.FieldType.array Jvm.ClassFile.FieldType.byte))).before args0 about1 = true := code_word (m := ⟨17, 1⟩) (meth := k17m1) (c := k17c1) (by decide +kernel) rfl rfl rfl (by decide +kernel)
set_option maxRecDepth 65536 in
theorem w_c41 : (Jvm.Cond.code ({ cls := "java/lang/StringUTF16", name := "compress", desc := "([CII)[B" } : Jvm.MethodName) jdk_52_method_16_code (6 : Nat) (Option.some (Jvm.ClassFile.FieldType.array Jvm.ClassFile.FieldType.byte))).before args0 about1 = true := code_word (m := ⟨21, 8⟩) (meth := k21m8) (c := k21c8) (by decide +kernel) rfl rfl rfl (by decide +kernel)
set_option maxRecDepth 65536 in
theorem w_c42 : (Jvm.Cond.code ({ cls := "java/lang/StringUTF16", name := "compress", desc := "([CI[BII)I" } : Jvm.MethodName) jdk_52_method_21_code (7 : Nat) (Option.some Jvm.ClassFile.FieldType.int)).before args0 about1 = true := code_word (m := ⟨21, 9⟩) (meth := k21m9) (c := k21c9) (by decide +kernel) rfl rfl rfl (by decide +kernel)
set_option maxRecDepth 65536 in
theorem w_c43 : (Jvm.Cond.code ({ cls := "java/lang/StringUTF16", name := "toBytes", desc := "([CII)[B" } : Jvm.MethodName) jdk_52_method_14_code (5 : Nat) (Option.some (Jvm.ClassFile.FieldType.array Jvm.ClassFile.FieldType.byte))).before args0 about1 = true := code_word (m := ⟨21, 6⟩) (meth := k21m6) (c := k21c6) (by decide +kernel) rfl rfl rfl (by decide +kernel)
set_option maxRecDepth 65536 in
theorem w_c44 : (Jvm.Cond.code ({ cls := "java/lang/StringUTF16", name := "newBytesFor", desc := "(I)[B" } : Jvm.MethodName) jdk_52_method_2_code (1 : Nat) (Option.some (Jvm.ClassFile.FieldType.array Jvm.ClassFile.FieldType.byte))).before args0 about1 = true := code_word (m := ⟨21, 1⟩) (meth := k21m1) (c := k21c1) (by decide +kernel) rfl rfl rfl (by decide +kernel)
set_option maxRecDepth 65536 in
theorem w_c45 : (Jvm.Cond.code ({ cls := "java/lang/StringUTF16", name := "newBytesLength", desc := "(I)I" } : Jvm.MethodName) jdk_52_method_3_code (1 : Nat) (Option.some Jvm.ClassFile.FieldType.int)).before args0 about1 = true := code_word (m := ⟨21, 2⟩) (meth := k21m2) (c := k21c2) (by decide +kernel) rfl rfl rfl (by decide +kernel)
set_option maxRecDepth 65536 in
theorem w_c46 : (Jvm.Cond.code ({ cls := "java/lang/StringUTF16", name := "putChar", desc := "([BII)V" } : Jvm.MethodName) jdk_52_method_4_code (3 : Nat) (Option.none : Option Jvm.ClassFile.FieldType)).before args0 about1 = true := code_word (m := ⟨21, 3⟩) (meth := k21m3) (c := k21c3) (by decide +kernel) rfl rfl rfl (by decide +kernel)
set_option maxRecDepth 65536 in
theorem w_c47 : (Jvm.Cond.code ({ cls := "java/lang/StringUTF16", name := "getChar", desc := "([BI)C" } : Jvm.MethodName) jdk_52_method_5_code (2 : Nat) (Option.some Jvm.ClassFile.FieldType.char)).before args0 about1 = true := code_word (m := ⟨21, 4⟩) (meth := k21m4) (c := k21c4) (by decide +kernel) rfl rfl rfl (by decide +kernel)
set_option maxRecDepth 65536 in
theorem w_c48 : (Jvm.Cond.code ({ cls := "java/lang/StringUTF16", name := "coderFromArrayLen", desc := "([BI)B" } : Jvm.MethodName) jdk_52_method_15_code (2 : Nat) (Option.some Jvm.ClassFile.FieldType.byte)).before args0 about1 = true := code_word (m := ⟨21, 7⟩) (meth := k21m7) (c := k21c7) (by decide +kernel) rfl rfl rfl (by decide +kernel)
set_option maxRecDepth 65536 in
theorem w_c49 : (Jvm.Cond.code ({ cls := "java/lang/AbstractStringBuilder", name := "inflate", desc := "()V" } : Jvm.MethodName) jdk_68_method_11_code (2 : Nat) (Option.none : Option Jvm.ClassFile.FieldType)).before args0 about1 = true := code_word (m := ⟨14, 5⟩) (meth := k14m5) (c := k14c5) (by decide +kernel) rfl rfl rfl (by decide +kernel)
set_option maxRecDepth 65536 in
theorem w_c50 : (Jvm.Cond.code ({ cls := "java/lang/StringLatin1", name := "inflate", desc := "([BI[BII)V" } : Jvm.MethodName) jdk_43_method_50_code (5 : Nat) (Option.none : Option Jvm.ClassFile.FieldType)).before args0 about1 = true := code_word (m := ⟨19, 2⟩) (meth := k19m2) (c := k19c2) (by decide +kernel) rfl rfl rfl (by decide +kernel)
set_option maxRecDepth 65536 in
theorem w_c51 : (Jvm.Cond.code ({ cls := "java/lang/StringUTF16", name := "inflate", desc := "([BI[BII)V" } : Jvm.MethodName) jdk_52_method_86_code (6 : Nat) (Option.none : Option Jvm.ClassFile.FieldType)).before args0 about1 = true := code_word (m := ⟨21, 10⟩) (meth := k21m10) (c := k21c10) (by decide +kernel) rfl rfl rfl (by decide +kernel)
set_option maxRecDepth 65536 in
theorem w_c52 : (Jvm.Cond.code ({ cls := "java/lang/StringUTF16", name := "checkBoundsOffCount", desc := "(II[B)V" } : Jvm.MethodName) jdk_52_method_94_code (3 : Nat) (Option.none : Option Jvm.ClassFile.FieldType)).before args0 about1 = true := code_word (m := ⟨21, 11⟩) (meth := k21m11) (c := k21c11) (by decide +kernel) rfl rfl rfl (by decide +kernel)
set_option maxRecDepth 65536 in
theorem w_c53 : (Jvm.Cond.code ({ cls := "java/lang/StringUTF16", name := "length", desc := "([B)I" } : Jvm.MethodName) jdk_52_method_6_code (1 : Nat) (Option.some Jvm.ClassFile.FieldType.int)).before args0 about1 = true := code_word (m := ⟨21, 5⟩) (meth := k21m5) (c := k21c5) (by decide +kernel) rfl rfl rfl (by decide +kernel)
set_option maxRecDepth 65536 in
theorem w_c54 : (Jvm.Cond.code ({ cls := "java/lang/String", name := "checkBoundsOffCount", desc := "(III)I" } : Jvm.MethodName) jdk_42_method_157_code (3 : Nat) (Option.some Jvm.ClassFile.FieldType.int)).before args0 about1 = true := code_word (m := ⟨7, 9⟩) (meth := k7m9) (c := k7c9) (by decide +kernel) rfl rfl rfl (by decide +kernel)
set_option maxRecDepth 65536 in
theorem w_c55 : (Jvm.Cond.code ({ cls := "jdk/internal/util/Preconditions", name := "checkFromIndexSize", desc := "(IIILjava/util/function/BiFunction;)I" } : Jvm.MethodName) jdk_41_method_13_code (4 : Nat) (Option.some Jvm.ClassFile.FieldType.int)).before args0 about1 = true := code_word (m := ⟨22, 1⟩) (meth := k22m1) (c := k22c1) (by decide +kernel) rfl rfl rfl (by decide +kernel)
def codes1 : List Jvm.Cond := [Jvm.Cond.code x code maxLocals ret, Jvm.Cond.code ({ cls := "com/example/vanth/vanth/PhaseGraphNoSuchPhasePinLaw", name := "drawn", desc := "(ICCC)Ljava/lang/String;" } : Jvm.MethodName) method_3_code (4 : Nat) (Option.some (Jvm.ClassFile.FieldType.object "java/lang/String")), Jvm.Cond.code ({ cls := "java/lang/String", name := "<init>", desc := "([C)V" } : Jvm.MethodName) jdk_42_method_3_code (2 : Nat) (Option.none : Option Jvm.ClassFile.FieldType), Jvm.Cond.code ({ cls := "java/lang/String", name := "<init>", desc := "([CIILjava/lang/Void;)V" } : Jvm.MethodName) jdk_42_method_149_code (6 : Nat) (Option.none : Option Jvm.ClassFile.FieldType), Jvm.Cond.code ({ cls := "java/lang/Object", name := "<init>", desc := "()V" } : Jvm.MethodName) object_method_1_code (1 : Nat) (Option.none : Option Jvm.ClassFile.FieldType), Jvm.Cond.code ({ cls := "com/example/vanth/vanth/PhaseGraphNoSuchPhasePinLaw", name := "expected", desc := "(ICCC)Ljava/lang/String;" } : Jvm.MethodName) method_4_code (4 : Nat) (Option.some (Jvm.ClassFile.FieldType.object "java/lang/String")), Jvm.Cond.code ({ cls := "com/example/vanth/vanth/PhaseGraph", name := "noSuchPhase", desc := "(Ljava/lang/String;)Ljava/lang/IllegalArgumentException;" } : Jvm.MethodName) prog_2_method_9_code (1 : Nat) (Option.some (Jvm.ClassFile.FieldType.object "java/lang/IllegalArgumentException")), Jvm.Cond.code ({ cls := "java/lang/StringBuilder", name := "<init>", desc := "()V" } : Jvm.MethodName) jdk_67_method_1_code (1 : Nat) (Option.none : Option Jvm.ClassFile.FieldType), Jvm.Cond.code ({ cls := "java/lang/AbstractStringBuilder", name := "<init>", desc := "(I)V" } : Jvm.MethodName) jdk_68_method_2_code (2 : Nat) (Option.none : Option Jvm.ClassFile.FieldType), Jvm.Cond.code ({ cls := "java/lang/StringBuilder", name := "append", desc := "(Ljava/lang/String;)Ljava/lang/StringBuilder;" } : Jvm.MethodName) jdk_67_method_7_code (2 : Nat) (Option.some (Jvm.ClassFile.FieldType.object "java/lang/StringBuilder")), Jvm.Cond.code ({ cls := "java/lang/AbstractStringBuilder", name := "append", desc := "(Ljava/lang/String;)Ljava/lang/AbstractStringBuilder;" } : Jvm.MethodName) jdk_68_method_22_code (3 : Nat) (Option.some (Jvm.ClassFile.FieldType.object "java/lang/AbstractStringBuilder")), Jvm.Cond.code ({ cls := "java/lang/String", name := "length", desc := "()I" } : Jvm.MethodName) jdk_42_method_54_code (1 : Nat) (Option.some Jvm.ClassFile.FieldType.int), Jvm.Cond.code ({ cls := "java/lang/String", name := "coder", desc := "()B" } : Jvm.MethodName) jdk_42_method_152_code (1 : Nat) (Option.some Jvm.ClassFile.FieldType.byte), Jvm.Cond.code ({ cls := "java/lang/AbstractStringBuilder", name := "ensureCapacityInternal", desc := "(I)V" } : Jvm.MethodName) jdk_68_method_9_code (3 : Nat) (Option.none : Option Jvm.ClassFile.FieldType), Jvm.Cond.code ({ cls := "java/lang/AbstractStringBuilder", name := "putStringAt", desc := "(ILjava/lang/String;)V" } : Jvm.MethodName) jdk_68_method_73_code (3 : Nat) (Option.none : Option Jvm.ClassFile.FieldType), Jvm.Cond.code ({ cls := "java/lang/AbstractStringBuilder", name := "inflateIfNeededFor", desc := "(Ljava/lang/String;)V" } : Jvm.MethodName) jdk_68_method_71_code (2 : Nat) (Option.none : Option Jvm.ClassFile.FieldType), Jvm.Cond.code ({ cls := "java/lang/String", name := "getBytes", desc := "([BIB)V" } : Jvm.MethodName) jdk_42_method_147_code (4 : Nat) (Option.none : Option Jvm.ClassFile.FieldType), Jvm.Cond.code ({ cls := "java/lang/StringBuilder", name := "toString", desc := "()Ljava/lang/String;" } : Jvm.MethodName) jdk_67_method_42_code (1 : Nat) (Option.some (Jvm.ClassFile.FieldType.object "java/lang/String")), Jvm.Cond.code ({ cls := "java/lang/String", name := "<init>", desc := "(Ljava/lang/StringBuilder;)V" } : Jvm.MethodName) jdk_42_method_53_code (2 : Nat) (Option.none : Option Jvm.ClassFile.FieldType), Jvm.Cond.code ({ cls := "java/lang/String", name := "<init>", desc := "(Ljava/lang/AbstractStringBuilder;Ljava/lang/Void;)V" } : Jvm.MethodName) jdk_42_method_150_code (5 : Nat) (Option.none : Option Jvm.ClassFile.FieldType), Jvm.Cond.code ({ cls := "java/lang/AbstractStringBuilder", name := "getValue", desc := "()[B" } : Jvm.MethodName) jdk_68_method_64_code (1 : Nat) (Option.some (Jvm.ClassFile.FieldType.array Jvm.ClassFile.FieldType.byte)), Jvm.Cond.code ({ cls := "java/lang/StringBuilder", name := "length", desc := "()I" } : Jvm.MethodName) jdk_67_method_93_code (1 : Nat) (Option.some Jvm.ClassFile.FieldType.int), Jvm.Cond.code ({ cls := "java/lang/AbstractStringBuilder", name := "length", desc := "()I" } : Jvm.MethodName) jdk_68_method_6_code (1 : Nat) (Option.some Jvm.ClassFile.FieldType.int), Jvm.Cond.code ({ cls := "java/lang/AbstractStringBuilder", name := "isLatin1", desc := "()Z" } : Jvm.MethodName) jdk_68_method_68_code (1 : Nat) (Option.some Jvm.ClassFile.FieldType.boolean), Jvm.Cond.code ({ cls := "java/util/Arrays", name := "copyOfRange", desc := "([BII)[B" } : Jvm.MethodName) jdk_65_method_132_code (3 : Nat) (Option.some (Jvm.ClassFile.FieldType.array Jvm.ClassFile.FieldType.byte)), Jvm.Cond.code ({ cls := "java/util/Arrays", name := "copyOfRangeByte", desc := "([BII)[B" } : Jvm.MethodName) jdk_65_method_133_code (5 : Nat) (Option.some (Jvm.ClassFile.FieldType.array Jvm.ClassFile.FieldType.byte)), Jvm.Cond.code ({ cls := "java/util/Arrays", name := "checkLength", desc := "(II)V" } : Jvm.MethodName) jdk_65_method_131_code (2 : Nat) (Option.none : Option Jvm.ClassFile.FieldType), Jvm.Cond.code ({ cls := "java/lang/Math", name := "min", desc := "(II)I" } : Jvm.MethodName) jdk_29_method_69_code (2 : Nat) (Option.some Jvm.ClassFile.FieldType.int), Jvm.Cond.code ({ cls := "java/lang/IllegalArgumentException", name := "<init>", desc := "(Ljava/lang/String;)V" } : Jvm.MethodName) jdk_57_method_2_code (2 : Nat) (Option.none : Option Jvm.ClassFile.FieldType), Jvm.Cond.code ({ cls := "java/lang/RuntimeException", name := "<init>", desc := "(Ljava/lang/String;)V" } : Jvm.MethodName) jdk_58_method_2_code (2 : Nat) (Option.none : Option Jvm.ClassFile.FieldType), Jvm.Cond.code ({ cls := "java/lang/Exception", name := "<init>", desc := "(Ljava/lang/String;)V" } : Jvm.MethodName) jdk_59_method_2_code (2 : Nat) (Option.none : Option Jvm.ClassFile.FieldType), Jvm.Cond.code ({ cls := "java/lang/Throwable", name := "<init>", desc := "(Ljava/lang/String;)V" } : Jvm.MethodName) jdk_78_method_2_code (2 : Nat) (Option.none : Option Jvm.ClassFile.FieldType), Jvm.Cond.code ({ cls := "java/lang/Throwable", name := "<init>", desc := "()V" } : Jvm.MethodName) jdk_78_method_1_code (1 : Nat) (Option.none : Option Jvm.ClassFile.FieldType), Jvm.Cond.code ({ cls := "java/lang/Throwable", name := "getMessage", desc := "()Ljava/lang/String;" } : Jvm.MethodName) jdk_78_method_6_code (1 : Nat) (Option.some (Jvm.ClassFile.FieldType.object "java/lang/String")), Jvm.Cond.code ({ cls := "java/lang/String", name := "equals", desc := "(Ljava/lang/Object;)Z" } : Jvm.MethodName) jdk_42_method_66_code (3 : Nat) (Option.some Jvm.ClassFile.FieldType.boolean), Jvm.Cond.code ({ cls := "java/lang/StringLatin1", name := "equals", desc := "([B[B)Z" } : Jvm.MethodName) jdk_43_method_13_code (3 : Nat) (Option.some Jvm.ClassFile.FieldType.boolean), Jvm.Cond.code ({ cls := "java/lang/AbstractStringBuilder", name := "appendNull", desc := "()Ljava/lang/AbstractStringBuilder;" } : Jvm.MethodName) jdk_68_method_26_code (3 : Nat) (Option.some (Jvm.ClassFile.FieldType.object "java/lang/AbstractStringBuilder")), Jvm.Cond.code ({ cls := "java/lang/AbstractStringBuilder", name := "newCapacity", desc := "(I)I" } : Jvm.MethodName) jdk_68_method_10_code (6 : Nat) (Option.some Jvm.ClassFile.FieldType.int), Jvm.Cond.code ({ cls := "jdk/internal/util/ArraysSupport", name := "newLength", desc := "(III)I" } : Jvm.MethodName) jdk_48_method_27_code (4 : Nat) (Option.some Jvm.ClassFile.FieldType.int), Jvm.Cond.code ({ cls := "java/lang/Math", name := "max", desc := "(II)I" } : Jvm.MethodName) jdk_29_method_65_code (2 : Nat) (Option.some Jvm.ClassFile.FieldType.int), Jvm.Cond.code ({ cls := "java/util/Arrays", name := "copyOf", desc := "([BI)[B" } : Jvm.MethodName) jdk_65_method_121_code (3 : Nat) (Option.some (Jvm.ClassFile.FieldType.array Jvm.ClassFile.FieldType.byte)), Jvm.Cond.code ({ cls := "java/lang/StringUTF16", name := "compress", desc := "([CII)[B" } : Jvm.MethodName) jdk_52_method_16_code (6 : Nat) (Option.some (Jvm.ClassFile.FieldType.array Jvm.ClassFile.FieldType.byte)), Jvm.Cond.code ({ cls := "java/lang/StringUTF16", name := "compress", desc := "([CI[BII)I" } : Jvm.MethodName) jdk_52_method_21_code (7 : Nat) (Option.some Jvm.ClassFile.FieldType.int), Jvm.Cond.code ({ cls := "java/lang/StringUTF16", name := "toBytes", desc := "([CII)[B" } : Jvm.MethodName) jdk_52_method_14_code (5 : Nat) (Option.some (Jvm.ClassFile.FieldType.array Jvm.ClassFile.FieldType.byte)), Jvm.Cond.code ({ cls := "java/lang/StringUTF16", name := "newBytesFor", desc := "(I)[B" } : Jvm.MethodName) jdk_52_method_2_code (1 : Nat) (Option.some (Jvm.ClassFile.FieldType.array Jvm.ClassFile.FieldType.byte)), Jvm.Cond.code ({ cls := "java/lang/StringUTF16", name := "newBytesLength", desc := "(I)I" } : Jvm.MethodName) jdk_52_method_3_code (1 : Nat) (Option.some Jvm.ClassFile.FieldType.int), Jvm.Cond.code ({ cls := "java/lang/StringUTF16", name := "putChar", desc := "([BII)V" } : Jvm.MethodName) jdk_52_method_4_code (3 : Nat) (Option.none : Option Jvm.ClassFile.FieldType), Jvm.Cond.code ({ cls := "java/lang/StringUTF16", name := "getChar", desc := "([BI)C" } : Jvm.MethodName) jdk_52_method_5_code (2 : Nat) (Option.some Jvm.ClassFile.FieldType.char), Jvm.Cond.code ({ cls := "java/lang/StringUTF16", name := "coderFromArrayLen", desc := "([BI)B" } : Jvm.MethodName) jdk_52_method_15_code (2 : Nat) (Option.some Jvm.ClassFile.FieldType.byte), Jvm.Cond.code ({ cls := "java/lang/AbstractStringBuilder", name := "inflate", desc := "()V" } : Jvm.MethodName) jdk_68_method_11_code (2 : Nat) (Option.none : Option Jvm.ClassFile.FieldType), Jvm.Cond.code ({ cls := "java/lang/StringLatin1", name := "inflate", desc := "([BI[BII)V" } : Jvm.MethodName) jdk_43_method_50_code (5 : Nat) (Option.none : Option Jvm.ClassFile.FieldType), Jvm.Cond.code ({ cls := "java/lang/StringUTF16", name := "inflate", desc := "([BI[BII)V" } : Jvm.MethodName) jdk_52_method_86_code (6 : Nat) (Option.none : Option Jvm.ClassFile.FieldType), Jvm.Cond.code ({ cls := "java/lang/StringUTF16", name := "checkBoundsOffCount", desc := "(II[B)V" } : Jvm.MethodName) jdk_52_method_94_code (3 : Nat) (Option.none : Option Jvm.ClassFile.FieldType), Jvm.Cond.code ({ cls := "java/lang/StringUTF16", name := "length", desc := "([B)I" } : Jvm.MethodName) jdk_52_method_6_code (1 : Nat) (Option.some Jvm.ClassFile.FieldType.int), Jvm.Cond.code ({ cls := "java/lang/String", name := "checkBoundsOffCount", desc := "(III)I" } : Jvm.MethodName) jdk_42_method_157_code (3 : Nat) (Option.some Jvm.ClassFile.FieldType.int), Jvm.Cond.code ({ cls := "jdk/internal/util/Preconditions", name := "checkFromIndexSize", desc := "(IIILjava/util/function/BiFunction;)I" } : Jvm.MethodName) jdk_41_method_13_code (4 : Nat) (Option.some Jvm.ClassFile.FieldType.int)]
set_option maxRecDepth 65536 in
theorem codes_eq : words1.filter isCode = codes1 := rfl
theorem w_codes : ∀ c ∈ words1.filter isCode, c.before args0 about1 = true := by
  rw [codes_eq]
  intro c hc
  simp only [codes1, List.mem_cons, List.not_mem_nil, or_false] at hc
  rcases hc with rfl | rfl | rfl | rfl | rfl | rfl | rfl | rfl | rfl | rfl | rfl | rfl | rfl | rfl | rfl | rfl | rfl | rfl | rfl | rfl | rfl | rfl | rfl | rfl | rfl | rfl | rfl | rfl | rfl | rfl | rfl | rfl | rfl | rfl | rfl | rfl | rfl | rfl | rfl | rfl | rfl | rfl | rfl | rfl | rfl | rfl | rfl | rfl | rfl | rfl | rfl | rfl | rfl | rfl | rfl | rfl
  · exact w_c0
  · exact w_c1
  · exact w_c2
  · exact w_c3
  · exact w_c4
  · exact w_c5
  · exact w_c6
  · exact w_c7
  · exact w_c8
  · exact w_c9
  · exact w_c10
  · exact w_c11
  · exact w_c12
  · exact w_c13
  · exact w_c14
  · exact w_c15
  · exact w_c16
  · exact w_c17
  · exact w_c18
  · exact w_c19
  · exact w_c20
  · exact w_c21
  · exact w_c22
  · exact w_c23
  · exact w_c24
  · exact w_c25
  · exact w_c26
  · exact w_c27
  · exact w_c28
  · exact w_c29
  · exact w_c30
  · exact w_c31
  · exact w_c32
  · exact w_c33
  · exact w_c34
  · exact w_c35
  · exact w_c36
  · exact w_c37
  · exact w_c38
  · exact w_c39
  · exact w_c40
  · exact w_c41
  · exact w_c42
  · exact w_c43
  · exact w_c44
  · exact w_c45
  · exact w_c46
  · exact w_c47
  · exact w_c48
  · exact w_c49
  · exact w_c50
  · exact w_c51
  · exact w_c52
  · exact w_c53
  · exact w_c54
  · exact w_c55
set_option maxRecDepth 65536 in
theorem w_t1 : (words1.take 24).all (fun c => isCode c || c.before args0 about1) = true := by decide +kernel
set_option maxRecDepth 65536 in
theorem w_t2 : ((words1.drop 24).take 24).all (fun c => isCode c || c.before args0 about1) = true := by decide +kernel
set_option maxRecDepth 65536 in
theorem w_t3 : (((words1.drop 24).drop 24).take 24).all (fun c => isCode c || c.before args0 about1) = true := by decide +kernel
set_option maxRecDepth 65536 in
theorem w_t4 : ((((words1.drop 24).drop 24).drop 24).take 24).all (fun c => isCode c || c.before args0 about1) = true := by decide +kernel
set_option maxRecDepth 65536 in
theorem w_t5 : (((((words1.drop 24).drop 24).drop 24).drop 24).take 24).all (fun c => isCode c || c.before args0 about1) = true := by decide +kernel
set_option maxRecDepth 65536 in
theorem w_t6 : ((((((words1.drop 24).drop 24).drop 24).drop 24).drop 24).take 24).all (fun c => isCode c || c.before args0 about1) = true := by decide +kernel
set_option maxRecDepth 65536 in
theorem w_t7 : (((((((words1.drop 24).drop 24).drop 24).drop 24).drop 24).drop 24).take 24).all (fun c => isCode c || c.before args0 about1) = true := by decide +kernel
set_option maxRecDepth 65536 in
theorem w_t8 : ((((((((words1.drop 24).drop 24).drop 24).drop 24).drop 24).drop 24).drop 24).take 24).all (fun c => isCode c || c.before args0 about1) = true := by decide +kernel
set_option maxRecDepth 65536 in
theorem w_t9 : (((((((((words1.drop 24).drop 24).drop 24).drop 24).drop 24).drop 24).drop 24).drop 24).take 24).all (fun c => isCode c || c.before args0 about1) = true := by decide +kernel
set_option maxRecDepth 65536 in
theorem w_t10 : ((((((((((words1.drop 24).drop 24).drop 24).drop 24).drop 24).drop 24).drop 24).drop 24).drop 24).take 24).all (fun c => isCode c || c.before args0 about1) = true := by decide +kernel
set_option maxRecDepth 65536 in
theorem w_t11 : (((((((((((words1.drop 24).drop 24).drop 24).drop 24).drop 24).drop 24).drop 24).drop 24).drop 24).drop 24).take 24).all (fun c => isCode c || c.before args0 about1) = true := by decide +kernel
set_option maxRecDepth 65536 in
theorem w_t12 : ((((((((((((words1.drop 24).drop 24).drop 24).drop 24).drop 24).drop 24).drop 24).drop 24).drop 24).drop 24).drop 24).take 24).all (fun c => isCode c || c.before args0 about1) = true := by decide +kernel
set_option maxRecDepth 65536 in
theorem w_t13 : (((((((((((((words1.drop 24).drop 24).drop 24).drop 24).drop 24).drop 24).drop 24).drop 24).drop 24).drop 24).drop 24).drop 24).take 24).all (fun c => isCode c || c.before args0 about1) = true := by decide +kernel
set_option maxRecDepth 65536 in
theorem w_t14 : (((((((((((((words1.drop 24).drop 24).drop 24).drop 24).drop 24).drop 24).drop 24).drop 24).drop 24).drop 24).drop 24).drop 24).drop 24).all (fun c => isCode c || c.before args0 about1) = true := by decide +kernel
theorem w_tables : (allAtoms (Jvm.Cond.code x code maxLocals ret :: tables_1)).before args0 about1 = true := by
  rw [allAtoms_all]
  show words1.all (fun c => c.before args0 about1) = true
  refine all_split ?_ w_codes
  rw [← List.take_append_drop 24 words1, List.all_append, w_t1, ← List.take_append_drop 24 (words1.drop 24), List.all_append, w_t2, ← List.take_append_drop 24 ((words1.drop 24).drop 24), List.all_append, w_t3, ← List.take_append_drop 24 (((words1.drop 24).drop 24).drop 24), List.all_append, w_t4, ← List.take_append_drop 24 ((((words1.drop 24).drop 24).drop 24).drop 24), List.all_append, w_t5, ← List.take_append_drop 24 (((((words1.drop 24).drop 24).drop 24).drop 24).drop 24), List.all_append, w_t6, ← List.take_append_drop 24 ((((((words1.drop 24).drop 24).drop 24).drop 24).drop 24).drop 24), List.all_append, w_t7, ← List.take_append_drop 24 (((((((words1.drop 24).drop 24).drop 24).drop 24).drop 24).drop 24).drop 24), List.all_append, w_t8, ← List.take_append_drop 24 ((((((((words1.drop 24).drop 24).drop 24).drop 24).drop 24).drop 24).drop 24).drop 24), List.all_append, w_t9, ← List.take_append_drop 24 (((((((((words1.drop 24).drop 24).drop 24).drop 24).drop 24).drop 24).drop 24).drop 24).drop 24), List.all_append, w_t10, ← List.take_append_drop 24 ((((((((((words1.drop 24).drop 24).drop 24).drop 24).drop 24).drop 24).drop 24).drop 24).drop 24).drop 24), List.all_append, w_t11, ← List.take_append_drop 24 (((((((((((words1.drop 24).drop 24).drop 24).drop 24).drop 24).drop 24).drop 24).drop 24).drop 24).drop 24).drop 24), List.all_append, w_t12, ← List.take_append_drop 24 ((((((((((((words1.drop 24).drop 24).drop 24).drop 24).drop 24).drop 24).drop 24).drop 24).drop 24).drop 24).drop 24).drop 24), List.all_append, w_t13, w_t14]
  rfl
set_option maxRecDepth 65536 in
theorem w_rest : rest_1_c.before args0 about1 = true := by decide +kernel
set_option maxRecDepth 65536 in
theorem w_case : (Jvm.Cond.and given_1 narrow_1).before args0 about1 = true := by decide +kernel
set_option maxRecDepth 65536 in
theorem w_consts : constsHeld consts_1 about1 := Jvm.Lit.constsHeldB_iff.mp (by decide +kernel)
theorem w_applies : (headSpec (Jvm.Cond.code x code maxLocals ret :: tables_1) room_1).applies x e0.platform about1 = true :=
  (Spec.applies_iff w_frames).mpr ⟨w_running, w_runnable, w_alone, w_named, w_hears, w_ripe, w_room, w_tables⟩
theorem atStart : AtStart classFile x code maxLocals ret World_1 tables_1 room_1 Calls_1 rest_1 Pre_1 launch0 p0 e0 about1 theMethod args0 below0 :=
  ⟨lists_1, trivial, launch0.admits_env _ _ _, launch0.least_env, fairChoices_fair.cas, fairChoices_fair.clock, w_frames, w_args, w_heap, w_applies, ⟨(by decide +kernel : framesKnown about1 = true), ⟨(by decide +kernel : tablesKnown about1 = true), ⟨w_consts, trivial⟩⟩⟩, w_rest, w_case⟩
end start1
theorem witness_1 : WitnessClaimed_1 := ⟨start1.p0, start1.e0, start1.about1, start1.theMethod, start1.args0, start1.below0, start1.atStart⟩
end Jvm.Pilot.@@N@@
