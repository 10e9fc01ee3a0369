import JvmDerived
import JvmDerived.Pilot.@@N@@Statement
import JvmDerived.Pilot.@@N@@Code
set_option linter.unusedVariables false
set_option linter.unusedSimpArgs false
namespace Jvm.Own
open Sem ClassFile Op Lib Jvm.Stand Jvm.Free Jvm.LawKit Jvm.RoadKit
/-! THE LAYER. A symbolic heap (a list of cells, each described), and W: from here the body runs to its end with what Q says. One law an instruction: what W asks behind it gives W ahead of it. -/
/-- a field: the class that declares it, its name, its descriptor -/
abbrev Fd : Type := String × String × String
/-- a cell: an object (its class; its known fields; what they hold), or an array (its component type; what it holds) -/
abbrev SC : Type := (String × List Fd × List Value) ⊕ (FieldType × List Value)
abbrev obj (C : String) (fs : List Fd) (vs : List Value) : SC := Sum.inl (C, fs, vs)
abbrev arr (t : FieldType) (vs : List Value) : SC := Sum.inr (t, vs)
/-- its address; may the walk write it; what it is -/
abbrev Ent : Type := Addr × Bool × SC
/-- a String constant that has been loaded: its class, its entry, its text, where it lies -/
abbrev LitE : Type := String × Nat × String × Addr
/-- the launch, the case's start, its arguments, is the frame the narrow one -/
abbrev Gx : Type := Launch × State × Array Value × Bool
abbrev Gx.l (G : Gx) : Launch := G.1
abbrev Gx.Z (G : Gx) : State := G.2.1
abbrev Gx.a0 (G : Gx) : Array Value := G.2.2.1
abbrev Gx.nw (G : Gx) : Bool := G.2.2.2
/-- what one invocation has: program, environment, the state at its start, its method .. -/
abbrev Kx : Type := Program × Env × State × MethodId × Array Value × List Frame × Method × Code
abbrev Kx.p (K : Kx) : Program := K.1
abbrev Kx.e (K : Kx) : Env := K.2.1
abbrev Kx.s (K : Kx) : State := K.2.2.1
abbrev Kx.m (K : Kx) : MethodId := K.2.2.2.1
abbrev Kx.args (K : Kx) : Array Value := K.2.2.2.2.1
abbrev Kx.below (K : Kx) : List Frame := K.2.2.2.2.2.1
abbrev Kx.meth (K : Kx) : Method := K.2.2.2.2.2.2.1
abbrev Kx.c (K : Kx) : Code := K.2.2.2.2.2.2.2

/-- the frames beneath are of methods that the tables know, if those of the start are -/
def FK (G : Gx) (fs : List Frame) : Prop := G.Z.vm.MethodsKnown → G.Z.vm.FramesKnown G.Z.frames → G.Z.vm.FramesKnown fs
theorem FK.start {l : Launch} {s : State} {a0 args : Array Value} {b : Bool} {m : MethodId} {below : List Frame} (hf : s.frames = .invoking m args :: below) : FK (l, s, a0, b) below := fun _ hF y hy => hF y (by show y ∈ s.frames; rw [hf]; exact List.mem_cons_of_mem _ hy)
theorem FK.call {G : Gx} {below fs : List Frame} {vm : Vm} {m : MethodId} {meth : Method} {g : JFrame} (h : FK G below) (hal : G.Z.vm.Alike vm) (hm : vm.method? m = some meth) (hg : g.method = m) (e : fs = .java g :: below) : FK G fs := fun hM hF y hy m' hy' => by
  subst e
  rcases List.mem_cons.mp hy with rfl | hy
  · cases hy'
    rw [hg]
    exact hM m meth (by rw [← hal.method?]; exact hm)
  · exact h hM hF y hy m' hy'

/-! ### the symbolic heap -/
def AV (Z : State) (h : Heap) (a : Addr) (w : Bool) (t : FieldType) (vs : List Value) : Prop :=
  ∃ c : Cell, Arr Z h a c t ∧ c.slots.toList = vs ∧ vs.length < 2147483648 ∧ (∀ v ∈ vs, fits t v = true) ∧ (w = true → (∀ C, t = .object C → Ovr Z c.cls C) ∧ (t = .byte → Z.vm.findClass "[B" = some c.cls))
def LaidAll (Z : State) (a0 : Array Value) (C : String) (fs : List Fd) : Prop :=
  (fs.map fun f => f.2.1).Nodup ∧ ∀ f ∈ fs, Laid Z a0 C f.1 f.2.1 f.2.2 ∧ ∃ t, parseFieldDescriptor f.2.2 = some t
theorem LaidAll.cons {Z : State} {a0 : Array Value} {C O n d : String} {t : FieldType} {fs : List Fd} (h : Laid Z a0 C O n d) (ht : parseFieldDescriptor d = some t) (r : ∀ f ∈ fs, Laid Z a0 C f.1 f.2.1 f.2.2 ∧ ∃ t, parseFieldDescriptor f.2.2 = some t) :
    ∀ f ∈ ((O, n, d) : Fd) :: fs, Laid Z a0 C f.1 f.2.1 f.2.2 ∧ ∃ t, parseFieldDescriptor f.2.2 = some t := fun f hf => by
  rcases List.mem_cons.mp hf with rfl | hf
  · exact ⟨h, t, ht⟩
  · exact r f hf
theorem LaidAll.nil {Z : State} {a0 : Array Value} {C : String} : ∀ f ∈ ([] : List Fd), Laid Z a0 C f.1 f.2.1 f.2.2 ∧ ∃ t, parseFieldDescriptor f.2.2 = some t := fun _ hf => nomatch hf
def Des (Z : State) (a0 : Array Value) (h : Heap) (a : Addr) (w : Bool) : SC → Prop
  | .inl (C, fs, vs) => Exa Z h a C ∧ vs.length = fs.length ∧ (∀ (i : Nat) (f : Fd) (v : Value), fs[i]? = some f → vs[i]? = some v → Fld Z h a f.1 f.2.1 f.2.2 v) ∧ (w = true → LaidAll Z a0 C fs ∧ Unt h a)
  | .inr (t, vs) => AV Z h a w t vs
def Sep (As : List Ent) : Prop := (As.map fun e => (e.1, e.2.1)).Pairwise fun p q => p.2 = true ∨ q.2 = true → p.1 ≠ q.1
def Inv (G : Gx) (As : List Ent) (h : Heap) : Prop :=
  Ext G.Z.heap h ∧ Sep As ∧ ∀ e ∈ As, (e.2.1 = true → G.Z.heap.size ≤ e.1) ∧ Des G.Z G.a0 h e.1 e.2.1 e.2.2
def LI (Z : State) (vm : Vm) (Li : List LitE) : Prop := IB Z vm (Li.map fun q => q.2.2.1) ∧ (∀ q ∈ Li, RoadKit.Lit (Z.setVm vm) q.1 q.2.1 q.2.2.2) ∧
  ∀ q ∈ Li, ∀ (units : Array UInt16) (a : Addr), utf16ToString? units = some q.2.2.1 → vm.interned.find? (fun p => p.1 == units) = some (units, a) → (∃ r ∈ Li, r.2.2.1 = q.2.2.1 ∧ r.2.2.2 = a) ∨ Z.vm.interned.find? (fun p => p.1 == units) = some (units, a)

section Heaps
variable {Z : State} {a0 : Array Value} {h h' : Heap} {a b : Addr} {w : Bool} {sc sc' : SC} {As As' : List Ent} {G : Gx} {C O n d : String} {v : Value} {fs : List Fd} {vs vs' : List Value} {t : FieldType}
theorem Fld.cell' (e : ∀ c, h[a]? = some c → h'[a]? = some c) (F : Fld Z h a C n d v) : Fld Z h' a C n d v := by
  obtain ⟨cell, cf, k, i, f, h1, r⟩ := F; exact ⟨cell, cf, k, i, f, e _ h1, r⟩
theorem Exa.cell' (e : ∀ c, h[a]? = some c → h'[a]? = some c) (F : Exa Z h a C) : Exa Z h' a C := by
  obtain ⟨cell, k, h1, r⟩ := F; exact ⟨cell, k, e _ h1, r⟩
theorem Des.cell (e : ∀ c, h[a]? = some c → h'[a]? = some c) (D : Des Z a0 h a w sc) : Des Z a0 h' a w sc := by
  rcases sc with ⟨C, fs, vs⟩ | ⟨t, vs⟩
  · obtain ⟨h1, h2, h3, h4⟩ := D
    exact ⟨Exa.cell' e h1, h2, fun i f v q r => Fld.cell' e (h3 i f v q r), fun hw => ⟨(h4 hw).1, by obtain ⟨c, u1, u2⟩ := (h4 hw).2; exact ⟨c, e _ u1, u2⟩⟩⟩
  · obtain ⟨c, A, r⟩ := D
    exact ⟨c, ⟨e _ A.1, A.2⟩, r⟩
theorem Des.lt (D : Des Z a0 h a w sc) : a < h.size := by
  rcases sc with ⟨C, fs, vs⟩ | ⟨t, vs⟩
  · exact D.1.lt
  · obtain ⟨c, A, -⟩ := D; exact A.lt
theorem Inv.ext (I : Inv G As h) (E : Ext h h') : Inv G As h' :=
  ⟨⟨Nat.le_trans I.1.1 E.1, fun x c q => E.2 x c (I.1.2 x c q)⟩, I.2.1, fun e he => ⟨(I.2.2 e he).1, (I.2.2 e he).2.cell fun c q => E.2 _ c q⟩⟩
theorem Inv.ge (I : Inv G As h) : G.Z.heap.size ≤ h.size := I.1.1
theorem Inv.push (I : Inv G As h) (E : Ext h h') (D : Des G.Z G.a0 h' h.size w sc) : Inv G ((h.size, w, sc) :: As) h' := by
  have J := I.ext E
  refine ⟨J.1, ?_, fun e he => ?_⟩
  · refine List.pairwise_cons.mpr ⟨fun p hp => ?_, I.2.1⟩
    obtain ⟨e, he, rfl⟩ := List.mem_map.mp hp
    exact fun _ => (Nat.ne_of_lt ((I.2.2 e he).2.lt)).symm
  · rcases List.mem_cons.mp he with rfl | he
    · exact ⟨fun _ => I.ge, D⟩
    · exact J.2.2 e he
/-- one cell of the list gets another description -/
def Upd (As : List Ent) (a : Addr) (sc sc' : SC) (As' : List Ent) : Prop := ∃ pre post, As = pre ++ (a, true, sc) :: post ∧ As' = pre ++ (a, true, sc') :: post
theorem Upd.head : Upd ((a, true, sc) :: As) a sc sc' ((a, true, sc') :: As) := ⟨[], As, rfl, rfl⟩
theorem Upd.tail {e : Ent} (u : Upd As a sc sc' As') : Upd (e :: As) a sc sc' (e :: As') := by
  obtain ⟨pre, post, rfl, rfl⟩ := u; exact ⟨e :: pre, post, rfl, rfl⟩
theorem Upd.mem (u : Upd As a sc sc' As') : (a, true, sc) ∈ As := by obtain ⟨pre, post, rfl, rfl⟩ := u; simp
theorem Inv.upd (I : Inv G As h) (u : Upd As a sc sc' As') (k : ∀ b, b ≠ a → ∀ c : Cell, h[b]? = some c → h'[b]? = some c) (hs : h.size ≤ h'.size) (D : Des G.Z G.a0 h' a true sc') : Inv G As' h' := by
  have hm := I.2.2 _ u.mem
  obtain ⟨pre, post, rfl, rfl⟩ := u
  have ha : G.Z.heap.size ≤ a := hm.1 rfl
  have sp := I.2.1
  refine ⟨⟨Nat.le_trans I.1.1 hs, fun x c q => k x (fun e => ?_) c (I.1.2 x c q)⟩, ?_, fun e he => ?_⟩
  · subst e; exact absurd (Array.getElem?_eq_some_iff.mp q).1 (Nat.not_lt.mpr ha)
  · simpa [Sep] using sp
  · simp only [Sep, List.map_append, List.map_cons, List.pairwise_append, List.pairwise_cons] at sp
    rcases List.mem_append.mp he with he | he
    · have q := I.2.2 e (List.mem_append_left _ he)
      refine ⟨q.1, q.2.cell (k _ ?_)⟩
      exact sp.2.2 _ (List.mem_map_of_mem he) (a, true) (List.mem_cons_self ..) (by simp)
    · rcases List.mem_cons.mp he with rfl | he
      · exact ⟨fun _ => ha, D⟩
      · have q := I.2.2 e (List.mem_append_right _ (List.mem_cons_of_mem _ he))
        refine ⟨q.1, q.2.cell (k _ ?_)⟩
        exact (sp.2.1.1 _ (List.mem_map_of_mem he) (by simp)).symm
/-- two places of the list, one of them the walk's own, are two cells -/
theorem Inv.ne (I : Inv G As h) {i j : Nat} {w' : Bool} (hi : As[i]? = some (a, w, sc)) (hj : As[j]? = some (b, w', sc')) (ij : i < j) (hw : w = true ∨ w' = true) : a ≠ b := by
  have sp := I.2.1
  rw [Sep, List.pairwise_iff_getElem] at sp
  obtain ⟨i1, i2⟩ := List.getElem?_eq_some_iff.mp hi
  obtain ⟨j1, j2⟩ := List.getElem?_eq_some_iff.mp hj
  have q := sp i j (by simpa using i1) (by simpa using j1) ij
  simp only [List.getElem_map, i2, j2] at q
  exact q hw
theorem Inv.perm (I : Inv G As h) (q : As.Perm As') : Inv G As' h := by
  refine ⟨I.1, ?_, fun e he => I.2.2 e (q.mem_iff.mpr he)⟩
  exact (q.map _).pairwise I.2.1 (fun {x y} r s => (r (s.symm)).symm)
theorem Inv.drop (I : Inv G As h) (q : As'.Sublist As) : Inv G As' h :=
  ⟨I.1, I.2.1.sublist (q.map _), fun e he => I.2.2 e (q.subset he)⟩
/-! fields by their names -/
def FAt (fs : List Fd) (vs : List Value) (O n d : String) (v : Value) : Prop := ∃ i : Nat, fs[i]? = some (O, n, d) ∧ vs[i]? = some v
theorem FAt.head : FAt ((O, n, d) :: fs) (v :: vs) O n d v := ⟨0, rfl, rfl⟩
theorem FAt.tail {f : Fd} {u : Value} (q : FAt fs vs O n d v) : FAt (f :: fs) (u :: vs) O n d v := by obtain ⟨i, h1, h2⟩ := q; exact ⟨i + 1, h1, h2⟩
def FUp (fs : List Fd) (vs : List Value) (O n d : String) (v : Value) (vs' : List Value) : Prop := ∃ i : Nat, fs[i]? = some (O, n, d) ∧ i < vs.length ∧ vs' = vs.set i v
theorem FUp.head {u : Value} : FUp ((O, n, d) :: fs) (u :: vs) O n d v (v :: vs) := ⟨0, rfl, Nat.succ_pos _, rfl⟩
theorem FUp.tail {f : Fd} {u : Value} (q : FUp fs vs O n d v vs') : FUp (f :: fs) (u :: vs) O n d v (u :: vs') := by
  obtain ⟨i, h1, h2, rfl⟩ := q; exact ⟨i + 1, h1, Nat.succ_lt_succ h2, rfl⟩
theorem Inv.fld (I : Inv G As h) (hm : (a, w, obj C fs vs) ∈ As) (q : FAt fs vs O n d v) : Fld G.Z h a O n d v := by
  obtain ⟨i, h1, h2⟩ := q; exact (I.2.2 _ hm).2.2.2.1 i _ v h1 h2
theorem Inv.exa (I : Inv G As h) (hm : (a, w, obj C fs vs) ∈ As) : Exa G.Z h a C := (I.2.2 _ hm).2.1
theorem Inv.av (I : Inv G As h) (hm : (a, w, arr t vs) ∈ As) : AV G.Z h a w t vs := (I.2.2 _ hm).2
theorem Inv.old (I : Inv G As h) : Ext G.Z.heap h := I.1
/-- a field is written -/
theorem Inv.wrF (I : Inv G As h) (u : Upd As a (obj C fs vs) (obj C fs vs') As') (q : FUp fs vs O n d v vs') (W : Wr h h' a (RoadKit.slotOf G.Z O n d) v) : Inv G As' h' := by
  have hm := (I.2.2 _ u.mem).2
  obtain ⟨i, h1, h2, rfl⟩ := q
  obtain ⟨e1, e2, e3, e4⟩ := hm
  have L := (e4 rfl).1
  refine I.upd u (fun b hb c hc => ?_) (Nat.le_of_eq W.size.symm) ⟨e1.wr W, by rw [List.length_set]; exact e2, fun j f x hf hx => ?_, fun _ => ⟨L, (e4 rfl).2.wr W⟩⟩
  · obtain ⟨c', q1, -, -, -, q5, -⟩ := wr_at W hc
    rw [q1, q5 hb]
  · by_cases ij : i = j
    · subst ij
      rw [h1] at hf; cases hf
      rw [List.getElem?_set_self h2] at hx; cases hx
      exact (e3 i _ _ h1 (List.getElem?_eq_getElem h2)).same W
    · rw [List.getElem?_set_ne ij] at hx
      refine (e3 j f x hf hx).other W (Or.inr ?_)
      obtain ⟨L1, t1, p1⟩ := L.2 f (List.mem_of_getElem? hf)
      obtain ⟨L2, t2, p2⟩ := L.2 _ (List.mem_of_getElem? h1)
      refine slot_ne L1 L2 (fun e => ?_) p1 p2
      have nd := L.1
      rw [List.nodup_iff_pairwise_ne, List.pairwise_iff_getElem] at nd
      obtain ⟨i1, i2⟩ := List.getElem?_eq_some_iff.mp h1
      obtain ⟨j1, j2⟩ := List.getElem?_eq_some_iff.mp hf
      rcases Nat.lt_or_gt_of_ne ij with lt | lt
      · have := nd i j (by simpa using i1) (by simpa using j1) lt
        simp only [List.getElem_map, i2, j2] at this
        exact this e.symm
      · have := nd j i (by simpa using j1) (by simpa using i1) lt
        simp only [List.getElem_map, i2, j2] at this
        exact this e
/-- a place of an array is written -/
theorem Inv.wrA (I : Inv G As h) {k : Nat} {c : Cell} (A : Arr G.Z h a c t) (u : Upd As a (arr t vs) (arr t (vs.set k v)) As') (hv : fits t v = true) (W : Wr h h' a k v) : Inv G As' h' := by
  have hm := (I.2.2 _ u.mem).2
  obtain ⟨c', A', e1, e2, e3, e4⟩ := hm
  cases A.1.symm.trans A'.1
  refine I.upd u (fun b hb c hc => ?_) (Nat.le_of_eq W.size.symm) ⟨c.setSlot k v, Arr.same W A, ?_, by rw [List.length_set]; exact e2, fun x hx => ?_, e4⟩
  · obtain ⟨c', q1, -, -, -, q5, -⟩ := wr_at W hc
    rw [q1, q5 hb]
  · rw [← e1]; simp [Cell.setSlot]
  · rcases List.mem_or_eq_of_mem_set hx with hx | rfl
    · exact e3 x hx
    · exact hv
theorem LI.warm {s : State} {vm0 vm1 : Vm} {Li : List LitE} (L : LI Z vm0 Li) (hW : (s.setVm vm0).WarmedH vm1) : LI Z vm1 Li := by
  obtain ⟨⟨more, e, hm⟩, r, t⟩ := L
  have hi : vm1.interned = vm0.interned := hW.interned_eq
  exact ⟨⟨more, hi.trans e, hm⟩, fun q hq => Lit.stays (s := s) (r q hq) hW.wide, fun q hq units a hu hf => t q hq units a hu (by rw [← hi]; exact hf)⟩
end Heaps
end Jvm.Own
namespace Jvm.Own
open Sem ClassFile Op Lib Jvm.Stand Jvm.Free Jvm.LawKit Jvm.RoadKit
abbrev Qx : Type := Option Value → List Ent → List LitE → Prop
/-- the run from t ends: the method returns v, and Q says what lies there then -/
def Fini (G : Gx) (K : Kx) (R : Room) (Q : Qx) (t : State) : Prop :=
  ∃ (U : State) (v : Option Value), Steps K.p.tables K.e K.below t U ∧ U.status = .running ∧ Ended U K.below (.returned v) ∧
    ∃ (L : List Loc) (As : List Ent) (Li : List LitE), Q v As Li ∧ Inv G As U.heap ∧ LI G.Z U.vm Li ∧ Fr G.Z.heap.size L ∧ ReturnedEndW K.s (.returned v) U L R.cells R.slots ∧ (G.nw = true → K.s.WarmedH U.vm)
def Ok (G : Gx) (K : Kx) (y : MethodName) (code : ByteArray) (mL : Nat) (ret : Option FieldType) : Prop :=
  K.p.tables.exec = Jvm.exec ∧ K.c.code = code ∧ K.c.maxLocals = mL ∧ G.Z.Warmed39 K.s.vm ∧ K.s.vm.findClass y.cls = some K.m.cls ∧ K.meth.name = y.name ∧ K.meth.sig.returnType = ret ∧ K.meth.locks = false ∧ K.s.methodNamed? y = some K.m ∧ FK G K.below ∧ Ext G.Z.heap K.s.heap
/-- the body of y stands at pc with these locals and this stack over this symbolic heap: it runs to its end -/
def W (G : Gx) (K : Kx) (y : MethodName) (code : ByteArray) (ret : Option FieldType) (R : Room) (Q : Qx) (As : List Ent) (Li : List LitE) (cells slots pc : Nat) (Ls : List Slot) (st : List Value) : Prop :=
  ∀ (T : State) (vm0 : Vm) (k0 : Nat) (locs : List Loc), Ok G K y code Ls.length ret → Stand K.p G.l K.e R (K.s.setVm vm0) K.m K.args K.below K.meth K.c T locs cells slots →
    K.s.Since vm0 k0 → k0 ≤ T.heap.size → (G.nw = true → K.s.WarmedH vm0) → Inv G As T.heap → LI G.Z vm0 Li → Fr G.Z.heap.size locs → Fini G K R Q (T.setTop (mkF K.m pc Ls.toArray st))
section Laws
variable {G : Gx} {K : Kx} {y : MethodName} {code : ByteArray} {ret : Option FieldType} {R : Room} {Q : Qx} {As As' : List Ent} {Li Li' : List LitE} {cells slots pc pc' : Nat} {Ls Ls' : List Slot} {st st' : List Value}
theorem W.via (hlen : Ls'.length = Ls.length) (n : W G K y code ret R Q As Li cells slots pc' Ls' st')
    (stp : ∀ T : State, At T K.m K.c K.below → K.p.tables.exec = Jvm.exec → K.c.code = code → ∀ target, Steps K.p.tables K.e K.below (T.setTop (mkF K.m pc' Ls'.toArray st')) target → Steps K.p.tables K.e K.below (T.setTop (mkF K.m pc Ls.toArray st)) target) :
    W G K y code ret R Q As Li cells slots pc Ls st := by
  intro T vm0 k0 locs ok X hS hk hN hI hL hF
  obtain ⟨U, v, h1, h2⟩ := n T vm0 k0 locs (hlen ▸ ok) X hS hk hN hI hL hF
  exact ⟨U, v, stp T X.here ok.1 ok.2.1 U h1, h2⟩
theorem W.mono {cells' slots' : Nat} (n : W G K y code ret R Q As Li cells' slots' pc Ls st) (hc : cells ≤ cells') (hs : slots ≤ slots') : W G K y code ret R Q As Li cells slots pc Ls st :=
  fun T vm0 k0 locs ok X hS hk hN hI hL hF => n T vm0 k0 locs ok (X.more hc hs) hS hk hN hI hL hF
theorem W.perm (n : W G K y code ret R Q As' Li cells slots pc Ls st) (q : As.Perm As') : W G K y code ret R Q As Li cells slots pc Ls st :=
  fun T vm0 k0 locs ok X hS hk hN hI hL hF => n T vm0 k0 locs ok X hS hk hN (hI.perm q) hL hF
theorem W.drop (n : W G K y code ret R Q As' Li cells slots pc Ls st) (q : As'.Sublist As) : W G K y code ret R Q As Li cells slots pc Ls st :=
  fun T vm0 k0 locs ok X hS hk hN hI hL hF => n T vm0 k0 locs ok X hS hk hN (hI.drop q) hL hF
theorem W.know (n : ∀ h, Inv G As h → W G K y code ret R Q As Li cells slots pc Ls st) : W G K y code ret R Q As Li cells slots pc Ls st :=
  fun T vm0 k0 locs ok X hS hk hN hI hL hF => n T.heap hI T vm0 k0 locs ok X hS hk hN hI hL hF
theorem W.conseq {Q' : Qx} (n : W G K y code ret R Q' As Li cells slots pc Ls st) (q : ∀ v As Li, Q' v As Li → Q v As Li) : W G K y code ret R Q As Li cells slots pc Ls st := by
  intro T vm0 k0 locs ok X hS hk hN hI hL hF
  obtain ⟨U, v, h1, h2, h3, L, A, I, h4, h5⟩ := n T vm0 k0 locs ok X hS hk hN hI hL hF
  exact ⟨U, v, h1, h2, h3, L, A, I, q _ _ _ h4, h5⟩

theorem W.iloadN {k : Fin 4} {v : Int32} (hd : decode code pc = .ok (.iload_n k, 1)) (hl : Ls[k.val]? = some (.val (.int v))) (n : W G K y code ret R Q As Li cells slots (pc + 1) Ls (.int v :: st)) : W G K y code ret R Q As Li cells slots pc Ls st :=
  W.via rfl n fun T h hx hby tg hr => XS.iloadN h hx rfl (hb hby hd) (by simpa using hl) hr
theorem W.iload {k : Nat} {v : Int32} (hd : decode code pc = .ok (.iload k, 2)) (hl : Ls[k]? = some (.val (.int v))) (n : W G K y code ret R Q As Li cells slots (pc + 2) Ls (.int v :: st)) : W G K y code ret R Q As Li cells slots pc Ls st :=
  W.via rfl n fun T h hx hby tg hr => XS.iload h hx rfl (hb hby hd) (by simpa using hl) hr
theorem W.lloadN {k : Fin 4} {v : Int64} (hd : decode code pc = .ok (.lload_n k, 1)) (hl : Ls[k.val]? = some (.val (.long v))) (n : W G K y code ret R Q As Li cells slots (pc + 1) Ls (.long v :: st)) : W G K y code ret R Q As Li cells slots pc Ls st :=
  W.via rfl n fun T h hx hby tg hr => XS.lloadN h hx rfl (hb hby hd) (by simpa using hl) hr
theorem W.lload {k : Nat} {v : Int64} (hd : decode code pc = .ok (.lload k, 2)) (hl : Ls[k]? = some (.val (.long v))) (n : W G K y code ret R Q As Li cells slots (pc + 2) Ls (.long v :: st)) : W G K y code ret R Q As Li cells slots pc Ls st :=
  W.via rfl n fun T h hx hby tg hr => XS.lload h hx rfl (hb hby hd) (by simpa using hl) hr
theorem W.aloadN {k : Fin 4} {v : Value} (hd : decode code pc = .ok (.aload_n k, 1)) (hl : Ls[k.val]? = some (.val v)) (hv : v.isRef = true) (n : W G K y code ret R Q As Li cells slots (pc + 1) Ls (v :: st)) : W G K y code ret R Q As Li cells slots pc Ls st :=
  W.via rfl n fun T h hx hby tg hr => XS.aloadN h hx rfl (hb hby hd) (by simpa using hl) hv hr
theorem W.aload {k : Nat} {v : Value} (hd : decode code pc = .ok (.aload k, 2)) (hl : Ls[k]? = some (.val v)) (hv : v.isRef = true) (n : W G K y code ret R Q As Li cells slots (pc + 2) Ls (v :: st)) : W G K y code ret R Q As Li cells slots pc Ls st :=
  W.via rfl n fun T h hx hby tg hr => XS.aload h hx rfl (hb hby hd) (by simpa using hl) hv hr
theorem W.istoreN {k : Fin 4} {x : Int32} (hd : decode code pc = .ok (.istore_n k, 1)) (hl : storeLocals Ls.toArray k.val (.int x) = some Ls'.toArray) (hn : Ls'.length = Ls.length) (n : W G K y code ret R Q As Li cells slots (pc + 1) Ls' st) : W G K y code ret R Q As Li cells slots pc Ls (.int x :: st) :=
  W.via hn n fun T h hx hby tg hr => XS.istoreN h hx rfl (hb hby hd) rfl hl hr
theorem W.istore {k : Nat} {x : Int32} (hd : decode code pc = .ok (.istore k, 2)) (hl : storeLocals Ls.toArray k (.int x) = some Ls'.toArray) (hn : Ls'.length = Ls.length) (n : W G K y code ret R Q As Li cells slots (pc + 2) Ls' st) : W G K y code ret R Q As Li cells slots pc Ls (.int x :: st) :=
  W.via hn n fun T h hx hby tg hr => XS.istore h hx rfl (hb hby hd) rfl hl hr
theorem W.lstoreN {k : Fin 4} {x : Int64} (hd : decode code pc = .ok (.lstore_n k, 1)) (hl : storeLocals Ls.toArray k.val (.long x) = some Ls'.toArray) (hn : Ls'.length = Ls.length) (n : W G K y code ret R Q As Li cells slots (pc + 1) Ls' st) : W G K y code ret R Q As Li cells slots pc Ls (.long x :: st) :=
  W.via hn n fun T h hx hby tg hr => XS.lstoreN h hx rfl (hb hby hd) rfl hl hr
theorem W.lstore {k : Nat} {x : Int64} (hd : decode code pc = .ok (.lstore k, 2)) (hl : storeLocals Ls.toArray k (.long x) = some Ls'.toArray) (hn : Ls'.length = Ls.length) (n : W G K y code ret R Q As Li cells slots (pc + 2) Ls' st) : W G K y code ret R Q As Li cells slots pc Ls (.long x :: st) :=
  W.via hn n fun T h hx hby tg hr => XS.lstore h hx rfl (hb hby hd) rfl hl hr
theorem W.astoreN {k : Fin 4} {x : Value} (hd : decode code pc = .ok (.astore_n k, 1)) (hv : x.isRef = true) (hl : storeLocals Ls.toArray k.val x = some Ls'.toArray) (hn : Ls'.length = Ls.length) (n : W G K y code ret R Q As Li cells slots (pc + 1) Ls' st) : W G K y code ret R Q As Li cells slots pc Ls (x :: st) :=
  W.via hn n fun T h hx hby tg hr => XS.astoreN h hx rfl (hb hby hd) rfl hv hl hr
theorem W.astore {k : Nat} {x : Value} (hd : decode code pc = .ok (.astore k, 2)) (hv : x.isRef = true) (hl : storeLocals Ls.toArray k x = some Ls'.toArray) (hn : Ls'.length = Ls.length) (n : W G K y code ret R Q As Li cells slots (pc + 2) Ls' st) : W G K y code ret R Q As Li cells slots pc Ls (x :: st) :=
  W.via hn n fun T h hx hby tg hr => XS.astore h hx rfl (hb hby hd) rfl hv hl hr
theorem W.iinc {k : Nat} {cst : Int} {x z : Int32} (hd : decode code pc = .ok (.iinc k cst, 3)) (hk : Ls[k]? = some (.val (.int x))) (hz : Int32.ofInt cst = z) (hl : storeLocals Ls.toArray k (.int (x + z)) = some Ls'.toArray) (hn : Ls'.length = Ls.length) (n : W G K y code ret R Q As Li cells slots (pc + 3) Ls' st) : W G K y code ret R Q As Li cells slots pc Ls st :=
  W.via hn n fun T h hx hby tg hr => XS.iinc h hx rfl (hb hby hd) (by simpa using hk) (by rw [hz]; exact hl) hr
theorem W.iconst {i : Int} {z : Int32} (hd : decode code pc = .ok (.iconst i, 1)) (hz : Int32.ofInt i = z) (n : W G K y code ret R Q As Li cells slots (pc + 1) Ls (.int z :: st)) : W G K y code ret R Q As Li cells slots pc Ls st :=
  W.via rfl n fun T h hx hby tg hr => XS.iconst h hx rfl (hb hby hd) (by rw [hz]; exact hr)
theorem W.bipush {i : Int} {z : Int32} (hd : decode code pc = .ok (.bipush i, 2)) (hz : (Int8.ofInt i).toInt32 = z) (n : W G K y code ret R Q As Li cells slots (pc + 2) Ls (.int z :: st)) : W G K y code ret R Q As Li cells slots pc Ls st :=
  W.via rfl n fun T h hx hby tg hr => XS.bipush h hx rfl (hb hby hd) (by rw [hz]; exact hr)
theorem W.sipush {i : Int} {z : Int32} (hd : decode code pc = .ok (.sipush i, 3)) (hz : (Int16.ofInt i).toInt32 = z) (n : W G K y code ret R Q As Li cells slots (pc + 3) Ls (.int z :: st)) : W G K y code ret R Q As Li cells slots pc Ls st :=
  W.via rfl n fun T h hx hby tg hr => XS.sipush h hx rfl (hb hby hd) (by rw [hz]; exact hr)
theorem W.lconst {k : Fin 2} {z : Int64} (hd : decode code pc = .ok (.lconst k, 1)) (hz : Int64.ofNat k = z) (n : W G K y code ret R Q As Li cells slots (pc + 1) Ls (.long z :: st)) : W G K y code ret R Q As Li cells slots pc Ls st :=
  W.via rfl n fun T h hx hby tg hr => XS.lconst h hx rfl (hb hby hd) (by rw [hz]; exact hr)
theorem W.aconstNull  (hd : decode code pc = .ok (.aconst_null, 1))  (n : W G K y code ret R Q As Li cells slots (pc + 1) Ls (.null :: st)) : W G K y code ret R Q As Li cells slots pc Ls st :=
  W.via rfl n fun T h hx hby tg hr => XS.aconstNull h hx rfl (hb hby hd) hr
theorem W.iadd {x u z : Int32} (hd : decode code pc = .ok (.iadd, 1)) (hz : x + u = z) (n : W G K y code ret R Q As Li cells slots (pc + 1) Ls (.int z :: st)) : W G K y code ret R Q As Li cells slots pc Ls (.int u :: .int x :: st) :=
  W.via rfl n fun T h hx hby tg hr => XS.iadd h hx rfl (hb hby hd) rfl (by subst hz; exact hr)
theorem W.isub {x u z : Int32} (hd : decode code pc = .ok (.isub, 1)) (hz : x - u = z) (n : W G K y code ret R Q As Li cells slots (pc + 1) Ls (.int z :: st)) : W G K y code ret R Q As Li cells slots pc Ls (.int u :: .int x :: st) :=
  W.via rfl n fun T h hx hby tg hr => XS.isub h hx rfl (hb hby hd) rfl (by subst hz; exact hr)
theorem W.imul {x u z : Int32} (hd : decode code pc = .ok (.imul, 1)) (hz : x * u = z) (n : W G K y code ret R Q As Li cells slots (pc + 1) Ls (.int z :: st)) : W G K y code ret R Q As Li cells slots pc Ls (.int u :: .int x :: st) :=
  W.via rfl n fun T h hx hby tg hr => XS.imul h hx rfl (hb hby hd) rfl (by subst hz; exact hr)
theorem W.iand {x u z : Int32} (hd : decode code pc = .ok (.iand, 1)) (hz : x &&& u = z) (n : W G K y code ret R Q As Li cells slots (pc + 1) Ls (.int z :: st)) : W G K y code ret R Q As Li cells slots pc Ls (.int u :: .int x :: st) :=
  W.via rfl n fun T h hx hby tg hr => XS.iand h hx rfl (hb hby hd) rfl (by subst hz; exact hr)
theorem W.ior {x u z : Int32} (hd : decode code pc = .ok (.ior, 1)) (hz : x ||| u = z) (n : W G K y code ret R Q As Li cells slots (pc + 1) Ls (.int z :: st)) : W G K y code ret R Q As Li cells slots pc Ls (.int u :: .int x :: st) :=
  W.via rfl n fun T h hx hby tg hr => XS.ior h hx rfl (hb hby hd) rfl (by subst hz; exact hr)
theorem W.ixor {x u z : Int32} (hd : decode code pc = .ok (.ixor, 1)) (hz : x ^^^ u = z) (n : W G K y code ret R Q As Li cells slots (pc + 1) Ls (.int z :: st)) : W G K y code ret R Q As Li cells slots pc Ls (.int u :: .int x :: st) :=
  W.via rfl n fun T h hx hby tg hr => XS.ixor h hx rfl (hb hby hd) rfl (by subst hz; exact hr)
theorem W.ishl {x u z : Int32} (hd : decode code pc = .ok (.ishl, 1)) (hz : x <<< (u &&& 31) = z) (n : W G K y code ret R Q As Li cells slots (pc + 1) Ls (.int z :: st)) : W G K y code ret R Q As Li cells slots pc Ls (.int u :: .int x :: st) :=
  W.via rfl n fun T h hx hby tg hr => XS.ishl h hx rfl (hb hby hd) rfl (by subst hz; exact hr)
theorem W.ishr {x u z : Int32} (hd : decode code pc = .ok (.ishr, 1)) (hz : x >>> (u &&& 31) = z) (n : W G K y code ret R Q As Li cells slots (pc + 1) Ls (.int z :: st)) : W G K y code ret R Q As Li cells slots pc Ls (.int u :: .int x :: st) :=
  W.via rfl n fun T h hx hby tg hr => XS.ishr h hx rfl (hb hby hd) rfl (by subst hz; exact hr)
theorem W.iushr {x u z : Int32} (hd : decode code pc = .ok (.iushr, 1)) (hz : (x.toUInt32 >>> (u &&& 31).toUInt32).toInt32 = z) (n : W G K y code ret R Q As Li cells slots (pc + 1) Ls (.int z :: st)) : W G K y code ret R Q As Li cells slots pc Ls (.int u :: .int x :: st) :=
  W.via rfl n fun T h hx hby tg hr => XS.iushr h hx rfl (hb hby hd) rfl (by subst hz; exact hr)
theorem W.ladd {x u z : Int64} (hd : decode code pc = .ok (.ladd, 1)) (hz : x + u = z) (n : W G K y code ret R Q As Li cells slots (pc + 1) Ls (.long z :: st)) : W G K y code ret R Q As Li cells slots pc Ls (.long u :: .long x :: st) :=
  W.via rfl n fun T h hx hby tg hr => XS.ladd h hx rfl (hb hby hd) rfl (by subst hz; exact hr)
theorem W.lsub {x u z : Int64} (hd : decode code pc = .ok (.lsub, 1)) (hz : x - u = z) (n : W G K y code ret R Q As Li cells slots (pc + 1) Ls (.long z :: st)) : W G K y code ret R Q As Li cells slots pc Ls (.long u :: .long x :: st) :=
  W.via rfl n fun T h hx hby tg hr => XS.lsub h hx rfl (hb hby hd) rfl (by subst hz; exact hr)
theorem W.lmul {x u z : Int64} (hd : decode code pc = .ok (.lmul, 1)) (hz : x * u = z) (n : W G K y code ret R Q As Li cells slots (pc + 1) Ls (.long z :: st)) : W G K y code ret R Q As Li cells slots pc Ls (.long u :: .long x :: st) :=
  W.via rfl n fun T h hx hby tg hr => XS.lmul h hx rfl (hb hby hd) rfl (by subst hz; exact hr)
theorem W.land {x u z : Int64} (hd : decode code pc = .ok (.land, 1)) (hz : x &&& u = z) (n : W G K y code ret R Q As Li cells slots (pc + 1) Ls (.long z :: st)) : W G K y code ret R Q As Li cells slots pc Ls (.long u :: .long x :: st) :=
  W.via rfl n fun T h hx hby tg hr => XS.land h hx rfl (hb hby hd) rfl (by subst hz; exact hr)
theorem W.lor {x u z : Int64} (hd : decode code pc = .ok (.lor, 1)) (hz : x ||| u = z) (n : W G K y code ret R Q As Li cells slots (pc + 1) Ls (.long z :: st)) : W G K y code ret R Q As Li cells slots pc Ls (.long u :: .long x :: st) :=
  W.via rfl n fun T h hx hby tg hr => XS.lor h hx rfl (hb hby hd) rfl (by subst hz; exact hr)
theorem W.lxor {x u z : Int64} (hd : decode code pc = .ok (.lxor, 1)) (hz : x ^^^ u = z) (n : W G K y code ret R Q As Li cells slots (pc + 1) Ls (.long z :: st)) : W G K y code ret R Q As Li cells slots pc Ls (.long u :: .long x :: st) :=
  W.via rfl n fun T h hx hby tg hr => XS.lxor h hx rfl (hb hby hd) rfl (by subst hz; exact hr)
theorem W.idiv {x u z : Int32} (hd : decode code pc = .ok (.idiv, 1)) (hy : u ≠ 0) (hz : x / u = z) (n : W G K y code ret R Q As Li cells slots (pc + 1) Ls (.int z :: st)) : W G K y code ret R Q As Li cells slots pc Ls (.int u :: .int x :: st) :=
  W.via rfl n fun T h hx hby tg hr => XS.idiv h hx rfl (hb hby hd) rfl hy (by subst hz; exact hr)
theorem W.irem {x u z : Int32} (hd : decode code pc = .ok (.irem, 1)) (hy : u ≠ 0) (hz : x - x / u * u = z) (n : W G K y code ret R Q As Li cells slots (pc + 1) Ls (.int z :: st)) : W G K y code ret R Q As Li cells slots pc Ls (.int u :: .int x :: st) :=
  W.via rfl n fun T h hx hby tg hr => XS.irem h hx rfl (hb hby hd) rfl hy (by subst hz; exact hr)
theorem W.ldiv {x u z : Int64} (hd : decode code pc = .ok (.ldiv, 1)) (hy : u ≠ 0) (hz : x / u = z) (n : W G K y code ret R Q As Li cells slots (pc + 1) Ls (.long z :: st)) : W G K y code ret R Q As Li cells slots pc Ls (.long u :: .long x :: st) :=
  W.via rfl n fun T h hx hby tg hr => XS.ldiv h hx rfl (hb hby hd) rfl hy (by subst hz; exact hr)
theorem W.lrem {x u z : Int64} (hd : decode code pc = .ok (.lrem, 1)) (hy : u ≠ 0) (hz : x - x / u * u = z) (n : W G K y code ret R Q As Li cells slots (pc + 1) Ls (.long z :: st)) : W G K y code ret R Q As Li cells slots pc Ls (.long u :: .long x :: st) :=
  W.via rfl n fun T h hx hby tg hr => XS.lrem h hx rfl (hb hby hd) rfl hy (by subst hz; exact hr)
theorem W.irem' {x u : Int32} (hd : decode code pc = .ok (.irem, 1)) (hy : u ≠ 0) (n : W G K y code ret R Q As Li cells slots (pc + 1) Ls (.int (x % u) :: st)) : W G K y code ret R Q As Li cells slots pc Ls (.int u :: .int x :: st) :=
  W.via rfl n fun T h hx hby tg hr => XS.irem h hx rfl (hb hby hd) rfl hy (by rw [irem_eq_mod]; exact hr)
theorem W.ineg {x : Int32} {z : Int32} (hd : decode code pc = .ok (.ineg, 1)) (hz : -x = z) (n : W G K y code ret R Q As Li cells slots (pc + 1) Ls (.int z :: st)) : W G K y code ret R Q As Li cells slots pc Ls (.int x :: st) :=
  W.via rfl n fun T h hx hby tg hr => XS.ineg h hx rfl (hb hby hd) rfl (by subst hz; exact hr)
theorem W.lneg {x : Int64} {z : Int64} (hd : decode code pc = .ok (.lneg, 1)) (hz : -x = z) (n : W G K y code ret R Q As Li cells slots (pc + 1) Ls (.long z :: st)) : W G K y code ret R Q As Li cells slots pc Ls (.long x :: st) :=
  W.via rfl n fun T h hx hby tg hr => XS.lneg h hx rfl (hb hby hd) rfl (by subst hz; exact hr)
theorem W.i2l {x : Int32} {z : Int64} (hd : decode code pc = .ok (.i2l, 1)) (hz : x.toInt64 = z) (n : W G K y code ret R Q As Li cells slots (pc + 1) Ls (.long z :: st)) : W G K y code ret R Q As Li cells slots pc Ls (.int x :: st) :=
  W.via rfl n fun T h hx hby tg hr => XS.i2l h hx rfl (hb hby hd) rfl (by subst hz; exact hr)
theorem W.l2i {x : Int64} {z : Int32} (hd : decode code pc = .ok (.l2i, 1)) (hz : x.toInt32 = z) (n : W G K y code ret R Q As Li cells slots (pc + 1) Ls (.int z :: st)) : W G K y code ret R Q As Li cells slots pc Ls (.long x :: st) :=
  W.via rfl n fun T h hx hby tg hr => XS.l2i h hx rfl (hb hby hd) rfl (by subst hz; exact hr)
theorem W.i2b {x : Int32} {z : Int32} (hd : decode code pc = .ok (.i2b, 1)) (hz : x.toInt8.toInt32 = z) (n : W G K y code ret R Q As Li cells slots (pc + 1) Ls (.int z :: st)) : W G K y code ret R Q As Li cells slots pc Ls (.int x :: st) :=
  W.via rfl n fun T h hx hby tg hr => XS.i2b h hx rfl (hb hby hd) rfl (by subst hz; exact hr)
theorem W.i2c {x : Int32} {z : Int32} (hd : decode code pc = .ok (.i2c, 1)) (hz : x.toUInt32.toUInt16.toUInt32.toInt32 = z) (n : W G K y code ret R Q As Li cells slots (pc + 1) Ls (.int z :: st)) : W G K y code ret R Q As Li cells slots pc Ls (.int x :: st) :=
  W.via rfl n fun T h hx hby tg hr => XS.i2c h hx rfl (hb hby hd) rfl (by subst hz; exact hr)
theorem W.i2s {x : Int32} {z : Int32} (hd : decode code pc = .ok (.i2s, 1)) (hz : x.toInt16.toInt32 = z) (n : W G K y code ret R Q As Li cells slots (pc + 1) Ls (.int z :: st)) : W G K y code ret R Q As Li cells slots pc Ls (.int x :: st) :=
  W.via rfl n fun T h hx hby tg hr => XS.i2s h hx rfl (hb hby hd) rfl (by subst hz; exact hr)
theorem W.lcmp {x u : Int64} {z : Int32} (hd : decode code pc = .ok (.lcmp, 1)) (hz : lcmpW x u = z) (n : W G K y code ret R Q As Li cells slots (pc + 1) Ls (.int z :: st)) : W G K y code ret R Q As Li cells slots pc Ls (.long u :: .long x :: st) :=
  W.via rfl n fun T h hx hby tg hr => XS.lcmp h hx rfl (hb hby hd) rfl (by subst hz; exact hr)
theorem W.lshl {x z : Int64} {u : Int32} (hd : decode code pc = .ok (.lshl, 1)) (hz : x <<< (u &&& 0x3f).toInt64 = z) (n : W G K y code ret R Q As Li cells slots (pc + 1) Ls (.long z :: st)) : W G K y code ret R Q As Li cells slots pc Ls (.int u :: .long x :: st) :=
  W.via rfl n fun T h hx hby tg hr => XS.lshl h hx rfl (hb hby hd) rfl (by subst hz; exact hr)
theorem W.lshr {x z : Int64} {u : Int32} (hd : decode code pc = .ok (.lshr, 1)) (hz : x >>> (u &&& 0x3f).toInt64 = z) (n : W G K y code ret R Q As Li cells slots (pc + 1) Ls (.long z :: st)) : W G K y code ret R Q As Li cells slots pc Ls (.int u :: .long x :: st) :=
  W.via rfl n fun T h hx hby tg hr => XS.lshr h hx rfl (hb hby hd) rfl (by subst hz; exact hr)
theorem W.lushr {x z : Int64} {u : Int32} (hd : decode code pc = .ok (.lushr, 1)) (hz : (x.toUInt64 >>> (u &&& 0x3f).toInt64.toUInt64).toInt64 = z) (n : W G K y code ret R Q As Li cells slots (pc + 1) Ls (.long z :: st)) : W G K y code ret R Q As Li cells slots pc Ls (.int u :: .long x :: st) :=
  W.via rfl n fun T h hx hby tg hr => XS.lushr h hx rfl (hb hby hd) rfl (by subst hz; exact hr)
theorem W.dup {x : Value} (hd : decode code pc = .ok (.dup, 1)) (hc : x.category = 1) (n : W G K y code ret R Q As Li cells slots (pc + 1) Ls (x :: x :: st)) : W G K y code ret R Q As Li cells slots pc Ls (x :: st) :=
  W.via rfl n fun T h hx hby tg hr => XS.dup h hx rfl (hb hby hd) rfl hc hr
theorem W.pop {x : Value} (hd : decode code pc = .ok (.pop, 1)) (hc : x.category = 1) (n : W G K y code ret R Q As Li cells slots (pc + 1) Ls st) : W G K y code ret R Q As Li cells slots pc Ls (x :: st) :=
  W.via rfl n fun T h hx hby tg hr => XS.pop h hx rfl (hb hby hd) rfl hc hr
theorem W.dupX1 {x z : Value} (hd : decode code pc = .ok (.dup_x1, 1)) (hc : x.category = 1) (hc' : z.category = 1) (n : W G K y code ret R Q As Li cells slots (pc + 1) Ls (x :: z :: x :: st)) : W G K y code ret R Q As Li cells slots pc Ls (x :: z :: st) :=
  W.via rfl n fun T h hx hby tg hr => XS.dupX1 h hx rfl (hb hby hd) rfl hc hc' hr
theorem W.dup2 {x z : Value} (hd : decode code pc = .ok (.dup2, 1)) (hc : x.category = 1) (hc' : z.category = 1) (n : W G K y code ret R Q As Li cells slots (pc + 1) Ls (x :: z :: x :: z :: st)) : W G K y code ret R Q As Li cells slots pc Ls (x :: z :: st) :=
  W.via rfl n fun T h hx hby tg hr => Jvm.Free.XT.dup2 h hx rfl (hb hby hd) rfl hc hc' hr
theorem W.goto {o : Int} (pc' : Nat) (hd : decode code pc = .ok (.goto o, 3)) (ho : 0 ≤ (pc : Int) + o) (hp : ((pc : Int) + o).toNat = pc') (n : W G K y code ret R Q As Li cells slots pc' Ls st) : W G K y code ret R Q As Li cells slots pc Ls st :=
  W.via rfl n fun T h hx hby tg hr => XS.goto h hx rfl rfl (hb hby hd) ho hp hr
theorem W.if1 {cd : ClassFile.Cond} {o : Int} {x : Int32} (pc' : Nat) (hd : decode code pc = .ok (.ifCond cd o, 3)) (ho : 0 ≤ (pc : Int) + o) (hp : ((pc : Int) + o).toNat = pc') (hc : ifCond.holds cd x = true) (n : W G K y code ret R Q As Li cells slots pc' Ls st) : W G K y code ret R Q As Li cells slots pc Ls (.int x :: st) :=
  W.via rfl n fun T h hx hby tg hr => XS.ifYes h hx rfl rfl (hb hby hd) rfl hc ho hp hr
theorem W.if0 {cd : ClassFile.Cond} {o : Int} {x : Int32} (hd : decode code pc = .ok (.ifCond cd o, 3)) (hc : ifCond.holds cd x = false) (n : W G K y code ret R Q As Li cells slots (pc + 3) Ls st) : W G K y code ret R Q As Li cells slots pc Ls (.int x :: st) :=
  W.via rfl n fun T h hx hby tg hr => XS.ifNo h hx rfl (hb hby hd) rfl hc hr
theorem W.ic1 {cd : ClassFile.Cond} {o : Int} {x z : Int32} (pc' : Nat) (hd : decode code pc = .ok (.if_icmp cd o, 3)) (ho : 0 ≤ (pc : Int) + o) (hp : ((pc : Int) + o).toNat = pc') (hc : if_icmp.holds cd x z = true) (n : W G K y code ret R Q As Li cells slots pc' Ls st) : W G K y code ret R Q As Li cells slots pc Ls (.int z :: .int x :: st) :=
  W.via rfl n fun T h hx hby tg hr => XS.icmpYes h hx rfl rfl (hb hby hd) rfl hc ho hp hr
theorem W.ic0 {cd : ClassFile.Cond} {o : Int} {x z : Int32} (hd : decode code pc = .ok (.if_icmp cd o, 3)) (hc : if_icmp.holds cd x z = false) (n : W G K y code ret R Q As Li cells slots (pc + 3) Ls st) : W G K y code ret R Q As Li cells slots pc Ls (.int z :: .int x :: st) :=
  W.via rfl n fun T h hx hby tg hr => XS.icmpNo h hx rfl (hb hby hd) rfl hc hr
theorem W.nullY {o : Int} (pc' : Nat) (hd : decode code pc = .ok (.ifnull o, 3)) (ho : 0 ≤ (pc : Int) + o) (hp : ((pc : Int) + o).toNat = pc') (n : W G K y code ret R Q As Li cells slots pc' Ls st) : W G K y code ret R Q As Li cells slots pc Ls (.null :: st) :=
  W.via rfl n fun T h hx hby tg hr => XS.ifnullYes h hx rfl rfl (hb hby hd) rfl ho hp hr
theorem W.nullN {o : Int} {b : Addr} (hd : decode code pc = .ok (.ifnull o, 3)) (n : W G K y code ret R Q As Li cells slots (pc + 3) Ls st) : W G K y code ret R Q As Li cells slots pc Ls (.ref b :: st) :=
  W.via rfl n fun T h hx hby tg hr => XS.ifnullNo h hx rfl (hb hby hd) rfl hr
theorem W.nonnullY {o : Int} {b : Addr} (pc' : Nat) (hd : decode code pc = .ok (.ifnonnull o, 3)) (ho : 0 ≤ (pc : Int) + o) (hp : ((pc : Int) + o).toNat = pc') (n : W G K y code ret R Q As Li cells slots pc' Ls st) : W G K y code ret R Q As Li cells slots pc Ls (.ref b :: st) :=
  W.via rfl n fun T h hx hby tg hr => XS.ifnonnullYes h hx rfl rfl (hb hby hd) rfl ho hp hr
theorem W.nonnullN {o : Int} (hd : decode code pc = .ok (.ifnonnull o, 3)) (n : W G K y code ret R Q As Li cells slots (pc + 3) Ls st) : W G K y code ret R Q As Li cells slots pc Ls (.null :: st) :=
  W.via rfl n fun T h hx hby tg hr => XS.ifnonnullNo h hx rfl (hb hby hd) rfl hr
theorem W.ac1 {cd : ClassFile.ACond} {o : Int} {x z : Value} (pc' : Nat) (hd : decode code pc = .ok (.if_acmp cd o, 3)) (ho : 0 ≤ (pc : Int) + o) (hp : ((pc : Int) + o).toNat = pc') (h1 : x.isRef = true) (h2 : z.isRef = true) (hc : Jvm.Free.XT.acmp cd x z = true) (n : W G K y code ret R Q As Li cells slots pc' Ls st) : W G K y code ret R Q As Li cells slots pc Ls (z :: x :: st) :=
  W.via rfl n fun T h hx hby tg hr => Jvm.Free.XT.acmpYes h hx rfl rfl (hb hby hd) rfl h1 h2 hc ho hp hr
theorem W.ac0 {cd : ClassFile.ACond} {o : Int} {x z : Value} (hd : decode code pc = .ok (.if_acmp cd o, 3)) (h1 : x.isRef = true) (h2 : z.isRef = true) (hc : Jvm.Free.XT.acmp cd x z = false) (n : W G K y code ret R Q As Li cells slots (pc + 3) Ls st) : W G K y code ret R Q As Li cells slots pc Ls (z :: x :: st) :=
  W.via rfl n fun T h hx hby tg hr => Jvm.Free.XT.acmpNo h hx rfl (hb hby hd) rfl h1 h2 hc hr
theorem W.if_eq {o : Int} {x : Int32} (pc' : Nat) (hd : decode code pc = .ok (.ifCond .eq o, 3)) (ho : 0 ≤ (pc : Int) + o) (hp : ((pc : Int) + o).toNat = pc') (n1 : x = (0 : Int32) → W G K y code ret R Q As Li cells slots pc' Ls st) (n0 : ¬ x = (0 : Int32) → W G K y code ret R Q As Li cells slots (pc + 3) Ls st) : W G K y code ret R Q As Li cells slots pc Ls (.int x :: st) := by
  by_cases h : x = (0 : Int32)
  · exact W.if1 pc' hd ho hp ((Jvm.RoadKit.if0 _ _).trans (teq h).1) (n1 h)
  · exact W.if0 hd ((Jvm.RoadKit.if0 _ _).trans (feq h).1) (n0 h)
theorem W.ic_eq {o : Int} {x z : Int32} (pc' : Nat) (hd : decode code pc = .ok (.if_icmp .eq o, 3)) (ho : 0 ≤ (pc : Int) + o) (hp : ((pc : Int) + o).toNat = pc') (n1 : x = z → W G K y code ret R Q As Li cells slots pc' Ls st) (n0 : ¬ x = z → W G K y code ret R Q As Li cells slots (pc + 3) Ls st) : W G K y code ret R Q As Li cells slots pc Ls (.int z :: .int x :: st) := by
  by_cases h : x = z
  · exact W.ic1 pc' hd ho hp (teq h).1 (n1 h)
  · exact W.ic0 hd (feq h).1 (n0 h)
theorem W.if_ne {o : Int} {x : Int32} (pc' : Nat) (hd : decode code pc = .ok (.ifCond .ne o, 3)) (ho : 0 ≤ (pc : Int) + o) (hp : ((pc : Int) + o).toNat = pc') (n1 : ¬ x = (0 : Int32) → W G K y code ret R Q As Li cells slots pc' Ls st) (n0 : x = (0 : Int32) → W G K y code ret R Q As Li cells slots (pc + 3) Ls st) : W G K y code ret R Q As Li cells slots pc Ls (.int x :: st) := by
  by_cases h : x = (0 : Int32)
  · exact W.if0 hd ((Jvm.RoadKit.if0 _ _).trans (teq h).2) (n0 h)
  · exact W.if1 pc' hd ho hp ((Jvm.RoadKit.if0 _ _).trans (feq h).2) (n1 h)
theorem W.ic_ne {o : Int} {x z : Int32} (pc' : Nat) (hd : decode code pc = .ok (.if_icmp .ne o, 3)) (ho : 0 ≤ (pc : Int) + o) (hp : ((pc : Int) + o).toNat = pc') (n1 : ¬ x = z → W G K y code ret R Q As Li cells slots pc' Ls st) (n0 : x = z → W G K y code ret R Q As Li cells slots (pc + 3) Ls st) : W G K y code ret R Q As Li cells slots pc Ls (.int z :: .int x :: st) := by
  by_cases h : x = z
  · exact W.ic0 hd (teq h).2 (n0 h)
  · exact W.ic1 pc' hd ho hp (feq h).2 (n1 h)
theorem W.if_lt {o : Int} {x : Int32} (pc' : Nat) (hd : decode code pc = .ok (.ifCond .lt o, 3)) (ho : 0 ≤ (pc : Int) + o) (hp : ((pc : Int) + o).toNat = pc') (n1 : x < (0 : Int32) → W G K y code ret R Q As Li cells slots pc' Ls st) (n0 : ¬ x < (0 : Int32) → W G K y code ret R Q As Li cells slots (pc + 3) Ls st) : W G K y code ret R Q As Li cells slots pc Ls (.int x :: st) := by
  by_cases h : x < (0 : Int32)
  · exact W.if1 pc' hd ho hp ((Jvm.RoadKit.if0 _ _).trans (tlt h).1) (n1 h)
  · exact W.if0 hd ((Jvm.RoadKit.if0 _ _).trans (flt h).1) (n0 h)
theorem W.ic_lt {o : Int} {x z : Int32} (pc' : Nat) (hd : decode code pc = .ok (.if_icmp .lt o, 3)) (ho : 0 ≤ (pc : Int) + o) (hp : ((pc : Int) + o).toNat = pc') (n1 : x < z → W G K y code ret R Q As Li cells slots pc' Ls st) (n0 : ¬ x < z → W G K y code ret R Q As Li cells slots (pc + 3) Ls st) : W G K y code ret R Q As Li cells slots pc Ls (.int z :: .int x :: st) := by
  by_cases h : x < z
  · exact W.ic1 pc' hd ho hp (tlt h).1 (n1 h)
  · exact W.ic0 hd (flt h).1 (n0 h)
theorem W.if_ge {o : Int} {x : Int32} (pc' : Nat) (hd : decode code pc = .ok (.ifCond .ge o, 3)) (ho : 0 ≤ (pc : Int) + o) (hp : ((pc : Int) + o).toNat = pc') (n1 : ¬ x < (0 : Int32) → W G K y code ret R Q As Li cells slots pc' Ls st) (n0 : x < (0 : Int32) → W G K y code ret R Q As Li cells slots (pc + 3) Ls st) : W G K y code ret R Q As Li cells slots pc Ls (.int x :: st) := by
  by_cases h : x < (0 : Int32)
  · exact W.if0 hd ((Jvm.RoadKit.if0 _ _).trans (tlt h).2.1) (n0 h)
  · exact W.if1 pc' hd ho hp ((Jvm.RoadKit.if0 _ _).trans (flt h).2.1) (n1 h)
theorem W.ic_ge {o : Int} {x z : Int32} (pc' : Nat) (hd : decode code pc = .ok (.if_icmp .ge o, 3)) (ho : 0 ≤ (pc : Int) + o) (hp : ((pc : Int) + o).toNat = pc') (n1 : ¬ x < z → W G K y code ret R Q As Li cells slots pc' Ls st) (n0 : x < z → W G K y code ret R Q As Li cells slots (pc + 3) Ls st) : W G K y code ret R Q As Li cells slots pc Ls (.int z :: .int x :: st) := by
  by_cases h : x < z
  · exact W.ic0 hd (tlt h).2.1 (n0 h)
  · exact W.ic1 pc' hd ho hp (flt h).2.1 (n1 h)
theorem W.if_gt {o : Int} {x : Int32} (pc' : Nat) (hd : decode code pc = .ok (.ifCond .gt o, 3)) (ho : 0 ≤ (pc : Int) + o) (hp : ((pc : Int) + o).toNat = pc') (n1 : (0 : Int32) < x → W G K y code ret R Q As Li cells slots pc' Ls st) (n0 : ¬ (0 : Int32) < x → W G K y code ret R Q As Li cells slots (pc + 3) Ls st) : W G K y code ret R Q As Li cells slots pc Ls (.int x :: st) := by
  by_cases h : (0 : Int32) < x
  · exact W.if1 pc' hd ho hp ((Jvm.RoadKit.if0 _ _).trans (tlt h).2.2.1) (n1 h)
  · exact W.if0 hd ((Jvm.RoadKit.if0 _ _).trans (flt h).2.2.1) (n0 h)
theorem W.ic_gt {o : Int} {x z : Int32} (pc' : Nat) (hd : decode code pc = .ok (.if_icmp .gt o, 3)) (ho : 0 ≤ (pc : Int) + o) (hp : ((pc : Int) + o).toNat = pc') (n1 : z < x → W G K y code ret R Q As Li cells slots pc' Ls st) (n0 : ¬ z < x → W G K y code ret R Q As Li cells slots (pc + 3) Ls st) : W G K y code ret R Q As Li cells slots pc Ls (.int z :: .int x :: st) := by
  by_cases h : z < x
  · exact W.ic1 pc' hd ho hp (tlt h).2.2.1 (n1 h)
  · exact W.ic0 hd (flt h).2.2.1 (n0 h)
theorem W.if_le {o : Int} {x : Int32} (pc' : Nat) (hd : decode code pc = .ok (.ifCond .le o, 3)) (ho : 0 ≤ (pc : Int) + o) (hp : ((pc : Int) + o).toNat = pc') (n1 : ¬ (0 : Int32) < x → W G K y code ret R Q As Li cells slots pc' Ls st) (n0 : (0 : Int32) < x → W G K y code ret R Q As Li cells slots (pc + 3) Ls st) : W G K y code ret R Q As Li cells slots pc Ls (.int x :: st) := by
  by_cases h : (0 : Int32) < x
  · exact W.if0 hd ((Jvm.RoadKit.if0 _ _).trans (tlt h).2.2.2) (n0 h)
  · exact W.if1 pc' hd ho hp ((Jvm.RoadKit.if0 _ _).trans (flt h).2.2.2) (n1 h)
theorem W.ic_le {o : Int} {x z : Int32} (pc' : Nat) (hd : decode code pc = .ok (.if_icmp .le o, 3)) (ho : 0 ≤ (pc : Int) + o) (hp : ((pc : Int) + o).toNat = pc') (n1 : ¬ z < x → W G K y code ret R Q As Li cells slots pc' Ls st) (n0 : z < x → W G K y code ret R Q As Li cells slots (pc + 3) Ls st) : W G K y code ret R Q As Li cells slots pc Ls (.int z :: .int x :: st) := by
  by_cases h : z < x
  · exact W.ic0 hd (tlt h).2.2.2 (n0 h)
  · exact W.ic1 pc' hd ho hp (flt h).2.2.2 (n1 h)
end Laws
end Jvm.Own
namespace Jvm.Own
open Sem ClassFile Op Lib Jvm.Stand Jvm.Free Jvm.LawKit Jvm.RoadKit
section Laws
variable {G : Gx} {K : Kx} {y : MethodName} {code : ByteArray} {ret : Option FieldType} {R : Room} {Q : Qx} {As As' : List Ent} {Li Li' : List LitE} {cells slots pc pc' : Nat} {Ls Ls' : List Slot} {st st' : List Value}
variable {a b : Addr} {w : Bool} {C O n d R0 host : String} {v x : Value} {fs : List Fd} {vs vs' : List Value} {t ty : FieldType} {idx kk : Nat}
theorem ok_Z {vm0 : Vm} {k0 mL : Nat} (ok : Ok G K y code mL ret) (hS : K.s.Since vm0 k0) : G.Z.Warmed39 (K.s.setVm vm0).vm := State.Warmed39.trans ok.2.2.2.1 hS.1
theorem ok_own {vm0 : Vm} {k0 mL : Nat} (ok : Ok G K y code mL ret) (hS : K.s.Since vm0 k0) : (K.s.setVm vm0).vm.findClass y.cls = some K.m.cls := by
  show vm0.findClass y.cls = _
  rw [hS.1.alike.findClass]; exact ok.2.2.2.2.1
theorem ok_fk {mL : Nat} (ok : Ok G K y code mL ret) : FK G K.below := ok.2.2.2.2.2.2.2.2.2.1
theorem ok_ext {mL : Nat} (ok : Ok G K y code mL ret) : Ext G.Z.heap K.s.heap := ok.2.2.2.2.2.2.2.2.2.2
/-! ### fields -/
theorem W.getF (wl : (Cond.fieldLink y.cls idx R0 n d).before G.a0 G.Z = true ∨ (Cond.fieldLinkNest y.cls idx R0 n d host).before G.a0 G.Z = true) (via : Via G.Z R0 O n d) (hd : decode code pc = .ok (.getfield idx, 3))
    (hm : (a, w, obj C fs vs) ∈ As) (hf : FAt fs vs O n d v) (nx : W G K y code ret R Q As Li cells slots (pc + 3) Ls (v :: st)) : W G K y code ret R Q As Li cells slots pc Ls (.ref a :: st) := by
  intro T vm0 k0 locs ok X hS hk hN hI hL hF
  obtain ⟨T', X', e', st'⟩ := Jvm.RoadKit.getF X ok.1 (ok_Z ok hS) (ok_own ok hS) wl via rfl (hI.fld hm hf) (g := mkF K.m pc Ls.toArray (.ref a :: st)) rfl rfl (hb ok.2.1 hd)
  obtain ⟨U, u, h1, h2⟩ := nx T' vm0 k0 locs ok X' hS (by rw [e']; exact hk) hN (by rw [e']; exact hI) hL hF
  exact ⟨U, u, st' _ h1, h2⟩
/-- .. of an object that stood at the start -/
theorem W.getFo (wl : (Cond.fieldLink y.cls idx R0 n d).before G.a0 G.Z = true ∨ (Cond.fieldLinkNest y.cls idx R0 n d host).before G.a0 G.Z = true) (via : Via G.Z R0 O n d) (hd : decode code pc = .ok (.getfield idx, 3))
    (F : Fld G.Z G.Z.heap a O n d v) (nx : W G K y code ret R Q As Li cells slots (pc + 3) Ls (v :: st)) : W G K y code ret R Q As Li cells slots pc Ls (.ref a :: st) := by
  intro T vm0 k0 locs ok X hS hk hN hI hL hF
  obtain ⟨T', X', e', st'⟩ := Jvm.RoadKit.getF X ok.1 (ok_Z ok hS) (ok_own ok hS) wl via rfl (F.ext hI.old) (g := mkF K.m pc Ls.toArray (.ref a :: st)) rfl rfl (hb ok.2.1 hd)
  obtain ⟨U, u, h1, h2⟩ := nx T' vm0 k0 locs ok X' hS (by rw [e']; exact hk) hN (by rw [e']; exact hI) hL hF
  exact ⟨U, u, st' _ h1, h2⟩
theorem W.putF (wl : (Cond.fieldLink y.cls idx R0 n d).before G.a0 G.Z = true ∨ (Cond.fieldLinkNest y.cls idx R0 n d host).before G.a0 G.Z = true) (via : Via G.Z R0 O n d) (hd : decode code pc = .ok (.putfield idx, 3))
    (L : (Cond.lays C O n d).before G.a0 G.Z = true ∨ ((Cond.laysFinal C O n d).before G.a0 G.Z = true ∧ y.cls = O ∧ y.name = "<init>")) (wi : (Cond.instantiable C kk).before G.a0 G.Z = true)
    (hty : parseFieldDescriptor d = some ty) (hn : narrow ty x = x) (hf : fits ty x = true)
    (u : Upd As a (obj C fs vs) (obj C fs vs') As') (q : FUp fs vs O n d x vs') (nx : W G K y code ret R Q As' Li cells slots (pc + 3) Ls st) : W G K y code ret R Q As Li cells slots pc Ls (x :: .ref a :: st) := by
  intro T vm0 k0 locs ok X hS hk hN hI hL hF
  have hm := u.mem
  obtain ⟨i, q1, q2, -⟩ := id q
  have F0 : Fld G.Z T.heap a O n d vs[i] := (hI.2.2 _ hm).2.2.2.1 i _ _ q1 (List.getElem?_eq_getElem q2)
  obtain ⟨T', h', X', e', W', st'⟩ := Jvm.RoadKit.putF X ok.1 (ok_Z ok hS) (ok_own ok hS) wl via rfl F0 (hI.exa hm) (L.imp id fun r => ⟨r.1, r.2.1, ok.2.2.2.2.2.1.trans r.2.2⟩) wi hty hn hf (g := mkF K.m pc Ls.toArray (x :: .ref a :: st)) rfl rfl (hb ok.2.1 hd)
  obtain ⟨U, u', h1, h2⟩ := nx T' vm0 k0 _ ok X' hS (by rw [e', W'.size]; exact hk) hN (by rw [e']; exact hI.wrF u q W') hL (Fr.snoc X' hF ((hI.2.2 _ hm).1 rfl))
  exact ⟨U, u', st' _ h1, h2⟩
/-- a boolean, byte, char or short: what the field keeps of the int -/
theorem W.putN (wl : (Cond.fieldLink y.cls idx R0 n d).before G.a0 G.Z = true) (via : Via G.Z R0 O n d) (hd : decode code pc = .ok (.putfield idx, 3))
    (L : (Cond.lays C O n d).before G.a0 G.Z = true ∨ ((Cond.laysFinal C O n d).before G.a0 G.Z = true ∧ y.cls = O ∧ y.name = "<init>")) (wi : (Cond.instantiable C kk).before G.a0 G.Z = true)
    {x' : Value} (hty : parseFieldDescriptor d = some ty) (hn : narrow ty x = x') (hf : fits ty x' = true)
    (u : Upd As a (obj C fs vs) (obj C fs vs') As') (q : FUp fs vs O n d x' vs') (nx : W G K y code ret R Q As' Li cells slots (pc + 3) Ls st) : W G K y code ret R Q As Li cells slots pc Ls (x :: .ref a :: st) := by
  intro T vm0 k0 locs ok X hS hk hN hI hL hF
  have hm := u.mem
  obtain ⟨i, q1, q2, -⟩ := id q
  have F0 : Fld G.Z T.heap a O n d vs[i] := (hI.2.2 _ hm).2.2.2.1 i _ _ q1 (List.getElem?_eq_getElem q2)
  obtain ⟨T', h', X', e', W', st'⟩ := Jvm.RoadKit.putFN X ok.1 (ok_Z ok hS) (ok_own ok hS) wl via rfl F0 (hI.exa hm) (L.imp id fun r => ⟨r.1, r.2.1, ok.2.2.2.2.2.1.trans r.2.2⟩) wi hty hn hf (g := mkF K.m pc Ls.toArray (x :: .ref a :: st)) rfl rfl (hb ok.2.1 hd)
  obtain ⟨U, u', h1, h2⟩ := nx T' vm0 k0 _ ok X' hS (by rw [e', W'.size]; exact hk) hN (by rw [e']; exact hI.wrF u q W') hL (Fr.snoc X' hF ((hI.2.2 _ hm).1 rfl))
  exact ⟨U, u', st' _ h1, h2⟩
theorem W.getS (wl : (Cond.fieldLink y.cls idx R0 n d).before G.a0 G.Z = true ∨ (Cond.fieldLinkNest y.cls idx R0 n d host).before G.a0 G.Z = true) (via : Via G.Z R0 O n d) (hd : decode code pc = .ok (.getstatic idx, 3))
    (F : Sta G.Z G.Z.heap O n d v) (nx : W G K y code ret R Q As Li cells slots (pc + 3) Ls (v :: st)) : W G K y code ret R Q As Li cells slots pc Ls st := by
  intro T vm0 k0 locs ok X hS hk hN hI hL hF
  obtain ⟨T', X', e', st'⟩ := getS2 X ok.1 (ok_Z ok hS) (ok_own ok hS) wl via rfl (F.ext hI.old) (g := mkF K.m pc Ls.toArray st) rfl (hb ok.2.1 hd)
  obtain ⟨U, u, h1, h2⟩ := nx T' vm0 k0 locs ok X' hS (by rw [e']; exact hk) hN (by rw [e']; exact hI) hL hF
  exact ⟨U, u, st' _ h1, h2⟩
/-! ### objects and arrays are made -/
def dv (d : String) : Value := defaultValue ((parseFieldDescriptor d).getD .int)
theorem W.new (wl : (Cond.classLink y.cls idx C).before G.a0 G.Z = true) (wi : (Cond.instantiable C kk).before G.a0 G.Z = true) (wz : (Cond.initialized C).before G.a0 G.Z = true) (hd : decode code pc = .ok (.new idx, 3))
    (hl : LaidAll G.Z G.a0 C fs) (hv : (fs.map fun f => dv f.2.2) = vs) (hc : cells + 1 ≤ R.cells) (hs : slots + kk ≤ R.slots)
    (nx : ∀ a, W G K y code ret R Q ((a, true, obj C fs vs) :: As) Li (cells + 1) (slots + kk) (pc + 3) Ls (.ref a :: st)) : W G K y code ret R Q As Li cells slots pc Ls st := by
  intro T vm0 k0 locs ok X hS hk hN hI hL hF
  obtain ⟨T', h', X', e', E, A, D, N, st'⟩ := newO X ok.1 (ok_Z ok hS) (ok_own ok hS) wl wi wz rfl (g := mkF K.m pc Ls.toArray st) rfl (hb ok.2.1 hd) hc hs
  have hD : Des G.Z G.a0 h' T.heap.size true (obj C fs vs) := by
    subst hv
    refine ⟨A, by simp, fun i f v hf hv => ?_, fun _ => ⟨hl, N⟩⟩
    rw [List.getElem?_map, hf] at hv
    cases hv
    obtain ⟨L1, t, ht⟩ := hl.2 f (List.mem_of_getElem? hf)
    have q := D L1 ht
    simpa [dv, ht] using q
  obtain ⟨U, u, h1, h2⟩ := nx T.heap.size T' vm0 k0 locs ok X' hS (by rw [e']; exact Nat.le_trans hk E.1) hN (by rw [e']; exact hI.push E hD) hL hF
  exact ⟨U, u, st' _ h1, h2⟩
theorem AV.of_new {Z : State} {h : Heap} {cA : ClassId} {z : Int32} (A : Arr Z h a (newA cA t z) t) (hO : ∀ C, t = .object C → Ovr Z cA C) (hB : t = .byte → Z.vm.findClass "[B" = some cA) : AV Z h a true t (List.replicate z.toNatClampNeg (defaultValue t)) := by
  refine ⟨_, A, by simp [newA], ?_, fun v hv => ?_, fun _ => ⟨hO, hB⟩⟩
  · have := Int32.toInt_lt z
    rw [List.length_replicate]; simp only [Int32.toNatClampNeg]; omega
  · rw [List.eq_of_mem_replicate hv]; cases t <;> rfl
theorem W.newP {aty : ArrayType} {z : Int32} (cap : Nat) (wl : (Cond.arrayClass (newarray.typeOf aty)).before G.a0 G.Z = true) (hd : decode code pc = .ok (.newarray aty, 2)) (ht : newarray.typeOf aty = t) (hz : ¬ z < 0) (hcap : z.toNatClampNeg ≤ cap) (hb8 : cap * 8 ≤ 536870912)
    (hv : List.replicate z.toNatClampNeg (defaultValue t) = vs) (hc : cells + 1 ≤ R.cells) (hs : slots + cap ≤ R.slots)
    (nx : ∀ a, W G K y code ret R Q ((a, true, arr t vs) :: As) Li (cells + 1) (slots + cap) (pc + 2) Ls (.ref a :: st)) : W G K y code ret R Q As Li cells slots pc Ls (.int z :: st) := by
  intro T vm0 k0 locs ok X hS hk hN hI hL hF
  obtain ⟨T', h', cA, X', e', E, A, Ex, st'⟩ := Jvm.RoadKit.newPE X ok.1 (ok_Z ok hS) wl rfl (g := mkF K.m pc Ls.toArray (.int z :: st)) rfl (hb ok.2.1 hd) rfl hz hcap hb8 hc hs rfl
  have hD : Des G.Z G.a0 h' T.heap.size true (arr t vs) := by
    subst hv; subst ht
    exact AV.of_new A (fun C e => by cases aty <;> cases e) (fun e => by
      obtain ⟨c2, k2, x1, x2, -⟩ := Ex
      cases A.1.symm.trans x1
      rw [e] at x2
      exact x2)
  obtain ⟨U, u, h1, h2⟩ := nx T.heap.size T' vm0 k0 locs ok X' hS (by rw [e']; exact Nat.le_trans hk E.1) hN (by rw [e']; exact hI.push E hD) hL hF
  exact ⟨U, u, st' _ h1, h2⟩
theorem W.newR {z : Int32} (cap : Nat) (wl : (Cond.classLink y.cls idx C).before G.a0 G.Z = true) (wo : (Cond.arrayOver (.object C)).before G.a0 G.Z = true) (hd : decode code pc = .ok (.anewarray idx, 3)) (hz : ¬ z < 0) (hcap : z.toNatClampNeg ≤ cap) (hb8 : cap * 8 ≤ 536870912)
    (hv : List.replicate z.toNatClampNeg Value.null = vs) (hc : cells + 1 ≤ R.cells) (hs : slots + cap ≤ R.slots)
    (nx : ∀ a, W G K y code ret R Q ((a, true, arr (.object C) vs) :: As) Li (cells + 1) (slots + cap) (pc + 3) Ls (.ref a :: st)) : W G K y code ret R Q As Li cells slots pc Ls (.int z :: st) := by
  intro T vm0 k0 locs ok X hS hk hN hI hL hF
  obtain ⟨T', h', cA, X', e', E, A, O, st'⟩ := Jvm.RoadKit.newR X ok.1 (ok_Z ok hS) (ok_own ok hS) wl wo rfl (g := mkF K.m pc Ls.toArray (.int z :: st)) rfl (hb ok.2.1 hd) rfl hz hcap hb8 hc hs
  have hD : Des G.Z G.a0 h' T.heap.size true (arr (.object C) vs) := by
    subst hv
    exact AV.of_new A (fun C' e => by cases e; exact O) (fun e => by cases e)
  obtain ⟨U, u, h1, h2⟩ := nx T.heap.size T' vm0 k0 locs ok X' hS (by rw [e']; exact Nat.le_trans hk E.1) hN (by rw [e']; exact hI.push E hD) hL hF
  exact ⟨U, u, st' _ h1, h2⟩
/-! ### arrays -/
theorem size_of {c : Cell} (e : c.slots.toList = vs) : c.slots.size = vs.length := by rw [← e]; simp
/-- what the walk knows of an array: its own, or one that stood at the start -/
def AVin (G : Gx) (As : List Ent) (a : Addr) (t : FieldType) (vs : List Value) : Prop := (∃ w, (a, w, arr t vs) ∈ As) ∨ AV G.Z G.Z.heap a false t vs
theorem AVin.mem (hm : (a, w, arr t vs) ∈ As) : AVin G As a t vs := Or.inl ⟨w, hm⟩
theorem AVin.old (A : AV G.Z G.Z.heap a false t vs) : AVin G As a t vs := Or.inr A
theorem AVin.get {h : Heap} (q : AVin G As a t vs) (I : Inv G As h) : AV G.Z h a false t vs := by
  rcases q with ⟨w, hm⟩ | ⟨c, A, r⟩
  · obtain ⟨c, A, e1, e2, e3, -⟩ := I.av hm
    exact ⟨c, A, e1, e2, e3, fun q => nomatch q⟩
  · exact ⟨c, A.ext I.old, r⟩
theorem W.alen {z : Int32} (hd : decode code pc = .ok (.arraylength, 1)) (hm : AVin G As a t vs) (hz : vs.length.toInt32 = z) (nx : W G K y code ret R Q As Li cells slots (pc + 1) Ls (.int z :: st)) : W G K y code ret R Q As Li cells slots pc Ls (.ref a :: st) := by
  intro T vm0 k0 locs ok X hS hk hN hI hL hF
  obtain ⟨c, A, e1, e2, e3, e4⟩ := hm.get hI
  obtain ⟨U, u, h1, h2⟩ := nx T vm0 k0 locs ok X hS hk hN hI hL hF
  refine ⟨U, u, X.arraylength ok.1 A.1 (State.isArrayOf_alike (ok_Z ok hS).alike A.2.1) (g := mkF K.m pc Ls.toArray (.ref a :: st)) rfl rfl (hb ok.2.1 hd) _ ?_, h2⟩
  rw [size_of e1, hz]; exact h1
theorem in_of {c : Cell} {j : Int32} (e : c.slots.toList = vs) (hj : ¬ j < 0) (hv : vs[j.toNatClampNeg]? = some v) : ¬ (j < 0 ∨ c.slots.size ≤ j.toNatClampNeg) ∧ c.slots[j.toNatClampNeg]? = some v := by
  refine ⟨fun q => q.elim hj fun r => ?_, ?_⟩
  · rw [size_of e] at r; exact absurd (List.getElem?_eq_some_iff.mp hv).1 (Nat.not_lt.mpr r)
  · rw [← Array.getElem?_toList, e]; exact hv
theorem W.iaload {j : Int32} (hd : decode code pc = .ok (.iaload, 1)) (hm : AVin G As a .int vs) (hj : ¬ j < 0) (hv : vs[j.toNatClampNeg]? = some v) (nx : W G K y code ret R Q As Li cells slots (pc + 1) Ls (v :: st)) : W G K y code ret R Q As Li cells slots pc Ls (.int j :: .ref a :: st) := by
  intro T vm0 k0 locs ok X hS hk hN hI hL hF
  obtain ⟨c, A, e1, -⟩ := hm.get hI
  obtain ⟨i1, i2⟩ := in_of e1 hj hv
  obtain ⟨U, u, h1, h2⟩ := nx T vm0 k0 locs ok X hS hk hN hI hL hF
  exact ⟨U, u, X.iaload ok.1 A.1 (State.isArrayOf_alike (ok_Z ok hS).alike A.2.1) A.2.2 i1 i2 (g := mkF K.m pc Ls.toArray (.int j :: .ref a :: st)) rfl rfl (hb ok.2.1 hd) _ h1, h2⟩
theorem W.laload {j : Int32} (hd : decode code pc = .ok (.laload, 1)) (hm : AVin G As a .long vs) (hj : ¬ j < 0) (hv : vs[j.toNatClampNeg]? = some v) (nx : W G K y code ret R Q As Li cells slots (pc + 1) Ls (v :: st)) : W G K y code ret R Q As Li cells slots pc Ls (.int j :: .ref a :: st) := by
  intro T vm0 k0 locs ok X hS hk hN hI hL hF
  obtain ⟨c, A, e1, -⟩ := hm.get hI
  obtain ⟨i1, i2⟩ := in_of e1 hj hv
  obtain ⟨U, u, h1, h2⟩ := nx T vm0 k0 locs ok X hS hk hN hI hL hF
  exact ⟨U, u, X.laload ok.1 A.1 (State.isArrayOf_alike (ok_Z ok hS).alike A.2.1) A.2.2 i1 i2 (g := mkF K.m pc Ls.toArray (.int j :: .ref a :: st)) rfl rfl (hb ok.2.1 hd) _ h1, h2⟩
theorem W.caload {j : Int32} (hd : decode code pc = .ok (.caload, 1)) (hm : AVin G As a .char vs) (hj : ¬ j < 0) (hv : vs[j.toNatClampNeg]? = some v) (nx : W G K y code ret R Q As Li cells slots (pc + 1) Ls (v :: st)) : W G K y code ret R Q As Li cells slots pc Ls (.int j :: .ref a :: st) := by
  intro T vm0 k0 locs ok X hS hk hN hI hL hF
  obtain ⟨c, A, e1, -⟩ := hm.get hI
  obtain ⟨i1, i2⟩ := in_of e1 hj hv
  obtain ⟨U, u, h1, h2⟩ := nx T vm0 k0 locs ok X hS hk hN hI hL hF
  exact ⟨U, u, X.caload ok.1 A.1 (State.isArrayOf_alike (ok_Z ok hS).alike A.2.1) A.2.2 i1 i2 (g := mkF K.m pc Ls.toArray (.int j :: .ref a :: st)) rfl rfl (hb ok.2.1 hd) _ h1, h2⟩
theorem W.saload {j : Int32} (hd : decode code pc = .ok (.saload, 1)) (hm : AVin G As a .short vs) (hj : ¬ j < 0) (hv : vs[j.toNatClampNeg]? = some v) (nx : W G K y code ret R Q As Li cells slots (pc + 1) Ls (v :: st)) : W G K y code ret R Q As Li cells slots pc Ls (.int j :: .ref a :: st) := by
  intro T vm0 k0 locs ok X hS hk hN hI hL hF
  obtain ⟨c, A, e1, -⟩ := hm.get hI
  obtain ⟨i1, i2⟩ := in_of e1 hj hv
  obtain ⟨U, u, h1, h2⟩ := nx T vm0 k0 locs ok X hS hk hN hI hL hF
  exact ⟨U, u, X.saload ok.1 A.1 (State.isArrayOf_alike (ok_Z ok hS).alike A.2.1) A.2.2 i1 i2 (g := mkF K.m pc Ls.toArray (.int j :: .ref a :: st)) rfl rfl (hb ok.2.1 hd) _ h1, h2⟩
theorem W.baload {j : Int32} (hd : decode code pc = .ok (.baload, 1)) (hm : AVin G As a .byte vs) (hj : ¬ j < 0) (hv : vs[j.toNatClampNeg]? = some v) (nx : W G K y code ret R Q As Li cells slots (pc + 1) Ls (v :: st)) : W G K y code ret R Q As Li cells slots pc Ls (.int j :: .ref a :: st) := by
  intro T vm0 k0 locs ok X hS hk hN hI hL hF
  obtain ⟨c, A, e1, -⟩ := hm.get hI
  obtain ⟨i1, i2⟩ := in_of e1 hj hv
  obtain ⟨U, u, h1, h2⟩ := nx T vm0 k0 locs ok X hS hk hN hI hL hF
  exact ⟨U, u, X.baloadBytes ok.1 A.1 (State.isArrayOf_alike (ok_Z ok hS).alike A.2.1) A.2.2 i1 i2 (g := mkF K.m pc Ls.toArray (.int j :: .ref a :: st)) rfl rfl (hb ok.2.1 hd) _ h1, h2⟩
theorem W.aaload {j : Int32} (hd : decode code pc = .ok (.aaload, 1)) (hm : AVin G As a t vs) (hr : t.isReference = true) (hj : ¬ j < 0) (hv : vs[j.toNatClampNeg]? = some v) (nx : W G K y code ret R Q As Li cells slots (pc + 1) Ls (v :: st)) : W G K y code ret R Q As Li cells slots pc Ls (.int j :: .ref a :: st) := by
  intro T vm0 k0 locs ok X hS hk hN hI hL hF
  obtain ⟨c, A, e1, -⟩ := hm.get hI
  obtain ⟨i1, i2⟩ := in_of e1 hj hv
  obtain ⟨U, u, h1, h2⟩ := nx T vm0 k0 locs ok X hS hk hN hI hL hF
  exact ⟨U, u, X.aaload ok.1 A.1 (State.isArrayOf_alike (ok_Z ok hS).alike A.2.1) hr A.2.2 i1 i2 (g := mkF K.m pc Ls.toArray (.int j :: .ref a :: st)) rfl rfl (hb ok.2.1 hd) _ h1, h2⟩
theorem W.iastore {j z : Int32} {i : Nat} {u : Value} (hd : decode code pc = .ok (.iastore, 1)) (hj : ¬ j < 0) (hi : j.toNatClampNeg = i) (hl : i < vs.length) (hu : (.int z) = u) (hv : vs.set i u = vs') (up : Upd As a (arr .int vs) (arr .int vs') As')
    (nx : W G K y code ret R Q As' Li cells slots (pc + 1) Ls st) : W G K y code ret R Q As Li cells slots pc Ls (.int z :: .int j :: .ref a :: st) := by
  intro T vm0 k0 locs ok X hS hk hN hI hL hF
  have hm := up.mem
  obtain ⟨c, A, e1, e2, e3, e4⟩ := hI.av hm
  subst hi; subst hu; subst hv
  have i1 : ¬ (j < 0 ∨ c.slots.size ≤ j.toNatClampNeg) := fun q => q.elim hj fun r => by rw [size_of e1] at r; exact absurd hl (Nat.not_lt.mpr r)
  obtain ⟨T', h', X', e', W', st'⟩ := stI X ok.1 (ok_Z ok hS) rfl A i1 (g := mkF K.m pc Ls.toArray (.int z :: .int j :: .ref a :: st)) rfl rfl (hb ok.2.1 hd)
  obtain ⟨U, u', h1, h2⟩ := nx T' vm0 k0 _ ok X' hS (by rw [e', W'.size]; exact hk) hN (by rw [e']; exact hI.wrA A up rfl W') hL (Fr.snoc X' hF ((hI.2.2 _ hm).1 rfl))
  exact ⟨U, u', st' _ h1, h2⟩
theorem W.castore {j z : Int32} {i : Nat} {u : Value} (hd : decode code pc = .ok (.castore, 1)) (hj : ¬ j < 0) (hi : j.toNatClampNeg = i) (hl : i < vs.length) (hu : (.int (nar .char z)) = u) (hv : vs.set i u = vs') (up : Upd As a (arr .char vs) (arr .char vs') As')
    (nx : W G K y code ret R Q As' Li cells slots (pc + 1) Ls st) : W G K y code ret R Q As Li cells slots pc Ls (.int z :: .int j :: .ref a :: st) := by
  intro T vm0 k0 locs ok X hS hk hN hI hL hF
  have hm := up.mem
  obtain ⟨c, A, e1, e2, e3, e4⟩ := hI.av hm
  subst hi; subst hu; subst hv
  have i1 : ¬ (j < 0 ∨ c.slots.size ≤ j.toNatClampNeg) := fun q => q.elim hj fun r => by rw [size_of e1] at r; exact absurd hl (Nat.not_lt.mpr r)
  obtain ⟨T', h', X', e', W', st'⟩ := stC X ok.1 (ok_Z ok hS) rfl A i1 (g := mkF K.m pc Ls.toArray (.int z :: .int j :: .ref a :: st)) rfl rfl (hb ok.2.1 hd)
  obtain ⟨U, u', h1, h2⟩ := nx T' vm0 k0 _ ok X' hS (by rw [e', W'.size]; exact hk) hN (by rw [e']; exact hI.wrA A up (fits_nar_char _) W') hL (Fr.snoc X' hF ((hI.2.2 _ hm).1 rfl))
  exact ⟨U, u', st' _ h1, h2⟩
theorem W.bastore {j z : Int32} {i : Nat} {u : Value} (hd : decode code pc = .ok (.bastore, 1)) (hj : ¬ j < 0) (hi : j.toNatClampNeg = i) (hl : i < vs.length) (hu : (.int (nar .byte z)) = u) (hv : vs.set i u = vs') (up : Upd As a (arr .byte vs) (arr .byte vs') As')
    (nx : W G K y code ret R Q As' Li cells slots (pc + 1) Ls st) : W G K y code ret R Q As Li cells slots pc Ls (.int z :: .int j :: .ref a :: st) := by
  intro T vm0 k0 locs ok X hS hk hN hI hL hF
  have hm := up.mem
  obtain ⟨c, A, e1, e2, e3, e4⟩ := hI.av hm
  subst hi; subst hu; subst hv
  have i1 : ¬ (j < 0 ∨ c.slots.size ≤ j.toNatClampNeg) := fun q => q.elim hj fun r => by rw [size_of e1] at r; exact absurd hl (Nat.not_lt.mpr r)
  obtain ⟨T', h', X', e', W', st'⟩ := stB X ok.1 (ok_Z ok hS) rfl A i1 (g := mkF K.m pc Ls.toArray (.int z :: .int j :: .ref a :: st)) rfl rfl (hb ok.2.1 hd)
  obtain ⟨U, u', h1, h2⟩ := nx T' vm0 k0 _ ok X' hS (by rw [e', W'.size]; exact hk) hN (by rw [e']; exact hI.wrA A up (fits_nar_byte _) W') hL (Fr.snoc X' hF ((hI.2.2 _ hm).1 rfl))
  exact ⟨U, u', st' _ h1, h2⟩
theorem W.sastore {j z : Int32} {i : Nat} {u : Value} (hd : decode code pc = .ok (.sastore, 1)) (hj : ¬ j < 0) (hi : j.toNatClampNeg = i) (hl : i < vs.length) (hu : (.int (nar .short z)) = u) (hv : vs.set i u = vs') (up : Upd As a (arr .short vs) (arr .short vs') As')
    (nx : W G K y code ret R Q As' Li cells slots (pc + 1) Ls st) : W G K y code ret R Q As Li cells slots pc Ls (.int z :: .int j :: .ref a :: st) := by
  intro T vm0 k0 locs ok X hS hk hN hI hL hF
  have hm := up.mem
  obtain ⟨c, A, e1, e2, e3, e4⟩ := hI.av hm
  subst hi; subst hu; subst hv
  have i1 : ¬ (j < 0 ∨ c.slots.size ≤ j.toNatClampNeg) := fun q => q.elim hj fun r => by rw [size_of e1] at r; exact absurd hl (Nat.not_lt.mpr r)
  obtain ⟨T', h', X', e', W', st'⟩ := stS X ok.1 (ok_Z ok hS) rfl A i1 (g := mkF K.m pc Ls.toArray (.int z :: .int j :: .ref a :: st)) rfl rfl (hb ok.2.1 hd)
  obtain ⟨U, u', h1, h2⟩ := nx T' vm0 k0 _ ok X' hS (by rw [e', W'.size]; exact hk) hN (by rw [e']; exact hI.wrA A up (fits_nar_short _) W') hL (Fr.snoc X' hF ((hI.2.2 _ hm).1 rfl))
  exact ⟨U, u', st' _ h1, h2⟩
/-! ### casts -/
/-- what the walk knows of an object's class: its own, or one that stood at the start -/
def Is (G : Gx) (As : List Ent) (a : Addr) (C : String) : Prop := (∃ w fs vs, (a, w, obj C fs vs) ∈ As) ∨ Exa G.Z G.Z.heap a C
theorem Is.mem (hm : (a, w, obj C fs vs) ∈ As) : Is G As a C := Or.inl ⟨w, fs, vs, hm⟩
theorem Is.old (E : Exa G.Z G.Z.heap a C) : Is G As a C := Or.inr E
theorem Is.exa {h : Heap} (q : Is G As a C) (I : Inv G As h) : Exa G.Z h a C := by
  rcases q with ⟨w, fs, vs, hm⟩ | E
  · exact I.exa hm
  · exact E.ext I.old
/-- a reference array takes a reference (aastore's own test): null, or an object of a class that may lie there -/
theorem W.aastore {j : Int32} {i : Nat} (hd : decode code pc = .ok (.aastore, 1)) (hj : ¬ j < 0) (hi : j.toNatClampNeg = i) (hl : i < vs.length) (hr : x = .null ∨ ∃ o D, x = .ref o ∧ Is G As o D ∧ (D = C ∨ (Cond.castable D C).before G.a0 G.Z = true)) (hv : vs.set i x = vs') (up : Upd As a (arr (.object C) vs) (arr (.object C) vs') As')
    (nx : W G K y code ret R Q As' Li cells slots (pc + 1) Ls st) : W G K y code ret R Q As Li cells slots pc Ls (x :: .int j :: .ref a :: st) := by
  intro T vm0 k0 locs ok X hS hk hN hI hL hF
  have hm := up.mem
  obtain ⟨c, A, e1, e2, e3, e4⟩ := hI.av hm
  subst hi; subst hv
  have i1 : ¬ (j < 0 ∨ c.slots.size ≤ j.toNatClampNeg) := fun q => q.elim hj fun r => by rw [size_of e1] at r; exact absurd hl (Nat.not_lt.mpr r)
  have S : Sto G.Z T.heap a x := by
    rcases hr with rfl | ⟨o, D, rfl, q, rfl | q'⟩
    · exact Or.inl rfl
    · exact Sto.of A ((e4 rfl).1 _ rfl) (Ins.self (q.exa hI))
    · exact Sto.of A ((e4 rfl).1 _ rfl) (Ins.of_exa (q.exa hI) q')
  have hfx : fits (.object C) x = true := by rcases hr with rfl | ⟨o, D, rfl, -⟩ <;> rfl
  obtain ⟨T', h', X', e', W', st'⟩ := stR X ok.1 (ok_Z ok hS) rfl A i1 rfl S (g := mkF K.m pc Ls.toArray (x :: .int j :: .ref a :: st)) rfl rfl (hb ok.2.1 hd)
  obtain ⟨U, u', h1, h2⟩ := nx T' vm0 k0 _ ok X' hS (by rw [e', W'.size]; exact hk) hN (by rw [e']; exact hI.wrA A up hfx W') hL (Fr.snoc X' hF ((hI.2.2 _ hm).1 rfl))
  exact ⟨U, u', st' _ h1, h2⟩
theorem W.castN {g : Nat} (hd : decode code pc = .ok (.checkcast idx, 3)) (nx : W G K y code ret R Q As Li cells slots (pc + 3) Ls (.null :: st)) : W G K y code ret R Q As Li cells slots pc Ls (.null :: st) := by
  intro T vm0 k0 locs ok X hS hk hN hI hL hF
  obtain ⟨U, u, h1, h2⟩ := nx T vm0 k0 locs ok X hS hk hN hI hL hF
  exact ⟨U, u, X.checkcastNull ok.1 (g := mkF K.m pc Ls.toArray (.null :: st)) rfl rfl (hb ok.2.1 hd) _ h1, h2⟩
theorem W.instNull (hd : decode code pc = .ok (.instanceof idx, 3)) (nx : W G K y code ret R Q As Li cells slots (pc + 3) Ls (.int 0 :: st)) : W G K y code ret R Q As Li cells slots pc Ls (.null :: st) := by
  intro T vm0 k0 locs ok X hS hk hN hI hL hF
  obtain ⟨U, u, h1, h2⟩ := nx T vm0 k0 locs ok X hS hk hN hI hL hF
  exact ⟨U, u, X.instanceofNull ok.1 (g := mkF K.m pc Ls.toArray (.null :: st)) rfl rfl (hb ok.2.1 hd) _ h1, h2⟩
theorem W.cast {D : String} (wl : (Cond.classLink y.cls idx D).before G.a0 G.Z = true) (hd : decode code pc = .ok (.checkcast idx, 3)) (hm : Is G As a C) (hc : C = D ∨ (Cond.castable C D).before G.a0 G.Z = true)
    (nx : W G K y code ret R Q As Li cells slots (pc + 3) Ls (.ref a :: st)) : W G K y code ret R Q As Li cells slots pc Ls (.ref a :: st) := by
  intro T vm0 k0 locs ok X hS hk hN hI hL hF
  have E := hm.exa hI
  have F : Ins G.Z T.heap a D true := hc.elim (fun e => by subst e; exact Ins.self E) (fun q => Ins.of_exa E q)
  obtain ⟨T', X', e', st'⟩ := castY X ok.1 (ok_Z ok hS) (ok_own ok hS) wl rfl F (g := mkF K.m pc Ls.toArray (.ref a :: st)) rfl rfl (hb ok.2.1 hd)
  obtain ⟨U, u, h1, h2⟩ := nx T' vm0 k0 locs ok X' hS (by rw [e']; exact hk) hN (by rw [e']; exact hI) hL hF
  exact ⟨U, u, st' _ h1, h2⟩
theorem W.inst {D : String} (wl : (Cond.classLink y.cls idx D).before G.a0 G.Z = true) (hd : decode code pc = .ok (.instanceof idx, 3)) (hm : Is G As a C) (hc : C = D ∨ (Cond.castable C D).before G.a0 G.Z = true)
    (nx : W G K y code ret R Q As Li cells slots (pc + 3) Ls (.int 1 :: st)) : W G K y code ret R Q As Li cells slots pc Ls (.ref a :: st) := by
  intro T vm0 k0 locs ok X hS hk hN hI hL hF
  have E := hm.exa hI
  have F : Ins G.Z T.heap a D true := hc.elim (fun e => by subst e; exact Ins.self E) (fun q => Ins.of_exa E q)
  obtain ⟨T', X', e', st'⟩ := instY X ok.1 (ok_Z ok hS) (ok_own ok hS) wl rfl F (g := mkF K.m pc Ls.toArray (.ref a :: st)) rfl rfl (hb ok.2.1 hd)
  obtain ⟨U, u, h1, h2⟩ := nx T' vm0 k0 locs ok X' hS (by rw [e']; exact hk) hN (by rw [e']; exact hI) hL hF
  exact ⟨U, u, st' _ h1, h2⟩
theorem W.instNo {D : String} (wl : (Cond.classLink y.cls idx D).before G.a0 G.Z = true) (hd : decode code pc = .ok (.instanceof idx, 3)) (hm : Is G As a C) (hc : ∃ c t, G.Z.vm.findClass C = some c ∧ G.Z.vm.findClass D = some t ∧ G.Z.vm.assignable c t = false)
    (nx : W G K y code ret R Q As Li cells slots (pc + 3) Ls (.int 0 :: st)) : W G K y code ret R Q As Li cells slots pc Ls (.ref a :: st) := by
  intro T vm0 k0 locs ok X hS hk hN hI hL hF
  obtain ⟨T', X', e', st'⟩ := Jvm.RoadKit.instNo X ok.1 (ok_Z ok hS) (ok_own ok hS) wl rfl (hm.exa hI) hc (g := mkF K.m pc Ls.toArray (.ref a :: st)) rfl rfl (hb ok.2.1 hd)
  obtain ⟨U, u, h1, h2⟩ := nx T' vm0 k0 locs ok X' hS (by rw [e']; exact hk) hN (by rw [e']; exact hI) hL hF
  exact ⟨U, u, st' _ h1, h2⟩
theorem W.ldcI {z : Int32} (wl : (Cond.constant y.cls idx z).before G.a0 G.Z = true) (hd : decode code pc = .ok (.ldc idx, 2)) (nx : W G K y code ret R Q As Li cells slots (pc + 2) Ls (.int z :: st)) : W G K y code ret R Q As Li cells slots pc Ls st := by
  intro T vm0 k0 locs ok X hS hk hN hI hL hF
  obtain ⟨U, u, h1, h2⟩ := nx T vm0 k0 locs ok X hS hk hN hI hL hF
  exact ⟨U, u, X.ldcInt ok.1 (ok_own ok hS) (mvT (ok_Z ok hS) wl) (g := mkF K.m pc Ls.toArray st) rfl (hb ok.2.1 hd) _ h1, h2⟩
theorem W.ldcJ {z : Int64} (wl : (Cond.constantLong y.cls idx z).before G.a0 G.Z = true) (hd : decode code pc = .ok (.ldc2_w idx, 3)) (nx : W G K y code ret R Q As Li cells slots (pc + 3) Ls (.long z :: st)) : W G K y code ret R Q As Li cells slots pc Ls st := by
  intro T vm0 k0 locs ok X hS hk hN hI hL hF
  obtain ⟨U, u, h1, h2⟩ := nx T vm0 k0 locs ok X hS hk hN hI hL hF
  exact ⟨U, u, X.ldc2Long ok.1 (ok_own ok hS) (mvT (ok_Z ok hS) wl) (g := mkF K.m pc Ls.toArray st) rfl (hb ok.2.1 hd) _ h1, h2⟩
/-! ### returns -/
theorem W.ret0 {T : State} {vm0 : Vm} {k0 : Nat} {locs : List Loc} (u : Option Value) (X : Stand K.p G.l K.e R (K.s.setVm vm0) K.m K.args K.below K.meth K.c T locs cells slots) (hS : K.s.Since vm0 k0) (hk : k0 ≤ T.heap.size) (hN : G.nw = true → K.s.WarmedH vm0) (hI : Inv G As T.heap) (hL : LI G.Z vm0 Li) (hF : Fr G.Z.heap.size locs)
    (hlk : K.meth.locks = false) (hv : K.meth.sig.returnType = none → u = none) (hq : Q u As Li) (hc : cells ≤ R.cells) (hs : slots ≤ R.slots) {t : State}
    (stp : ∀ fs, (∀ (f : JFrame) (acts : List Action), f.method = K.m → f.locked = none → f.entered = [] → (doReturn K.e (T.setTop f) acts u).1 = T.setFrames fs) → Steps K.p.tables K.e K.below t (T.setFrames fs)) : Fini G K R Q t := by
  obtain ⟨fs, hr, hrun, hended, e1, e2, e3, e4⟩ := X.leaveW hS hk (v := u) hv hlk
  exact ⟨T.setFrames fs, u, stp fs hr, hrun, hended, locs, As, Li, hq, hI, hL.warm X.warmed, hF, ⟨e1, e2, e3, e4.mono hc hs⟩, fun nw => State.WarmedH.trans (t := K.s.setVm vm0) (hN nw) X.warmed⟩
theorem W.vret (hd : decode code pc = .ok (.return_, 1)) (hr : ret = none) (hq : Q none As Li) (hc : cells ≤ R.cells) (hs : slots ≤ R.slots) : W G K y code ret R Q As Li cells slots pc Ls [] := by
  intro T vm0 k0 locs ok X hS hk hN hI hL hF
  obtain ⟨ox, ob, -, -, -, -, ort, olk, -⟩ := ok
  exact W.ret0 none X hS hk hN hI hL hF olk (fun _ => rfl) hq hc hs fun fs h => X.returnOut ox (ort.trans hr) (hb ob hd) h
theorem W.iret {z : Int32} {tt : FieldType} (hd : decode code pc = .ok (.ireturn, 1)) (hr : ret = some tt) (ht : tt = .int ∨ tt = .boolean ∨ tt = .byte ∨ tt = .char ∨ tt = .short) (hn : narrow tt (.int z) = .int z) (hq : Q (some (.int z)) As Li) (hc : cells ≤ R.cells) (hs : slots ≤ R.slots) : W G K y code ret R Q As Li cells slots pc Ls (.int z :: st) := by
  intro T vm0 k0 locs ok X hS hk hN hI hL hF
  obtain ⟨ox, ob, -, -, -, -, ort, olk, -⟩ := ok
  exact W.ret0 (some (.int z)) X hS hk hN hI hL hF olk (fun q => by rw [ort, hr] at q; cases q) hq hc hs fun fs h => retOut X ox (ort.trans hr) hn (Or.inl ⟨rfl, ht, z, rfl⟩) (hb ob hd) h
theorem W.lret {z : Int64} (hd : decode code pc = .ok (.lreturn, 1)) (hr : ret = some .long) (hq : Q (some (.long z)) As Li) (hc : cells ≤ R.cells) (hs : slots ≤ R.slots) : W G K y code ret R Q As Li cells slots pc Ls (.long z :: st) := by
  intro T vm0 k0 locs ok X hS hk hN hI hL hF
  obtain ⟨ox, ob, -, -, -, -, ort, olk, -⟩ := ok
  exact W.ret0 (some (.long z)) X hS hk hN hI hL hF olk (fun q => by rw [ort, hr] at q; cases q) hq hc hs fun fs h => retOut X ox (ort.trans hr) rfl (Or.inr (Or.inl ⟨rfl, rfl, z, rfl⟩)) (hb ob hd) h
theorem W.aret {tt : FieldType} (hd : decode code pc = .ok (.areturn, 1)) (hr : ret = some tt) (ht : tt.isReference = true) (hx : x.isRef = true) (hq : Q (some x) As Li) (hc : cells ≤ R.cells) (hs : slots ≤ R.slots) : W G K y code ret R Q As Li cells slots pc Ls (x :: st) := by
  intro T vm0 k0 locs ok X hS hk hN hI hL hF
  obtain ⟨ox, ob, -, -, -, -, ort, olk, -⟩ := ok
  have hn : narrow tt x = x := by rcases ref_cases hx with rfl | ⟨_, rfl⟩ <;> cases tt <;> rfl
  exact W.ret0 (some x) X hS hk hN hI hL hF olk (fun q => by rw [ort, hr] at q; cases q) hq hc hs fun fs h => retOut X ox (ort.trans hr) hn (Or.inr (Or.inr (Or.inr (Or.inr ⟨rfl, ht, hx⟩)))) (hb ob hd) h
end Laws
end Jvm.Own
namespace Jvm.Own
open Sem ClassFile Op Lib Jvm.Stand Jvm.Free Jvm.LawKit Jvm.RoadKit
/-! ### contracts and calls -/
/-- the contract of y: called with these arguments over this symbolic heap it returns, as Q says -/
def Ct (G : Gx) (ws : List Jvm.Cond) (y : MethodName) (code : ByteArray) (mL : Nat) (ret : Option FieldType) (R : Room) (args : List Value) (As : List Ent) (Li : List LitE) (Q : Qx) : Prop :=
  MetFree G.l y (head1 (Cond.code y code mL ret :: ws) R) (fun a U => a = args.toArray ∧ G.Z.Warmed39 U.vm ∧ Inv G As U.heap ∧ LI G.Z U.vm Li) (fun _ _ below _ _ => FK G below)
    (fun _ U o U' => ∃ (v : Option Value) (L : List Loc) (As' : List Ent) (Li' : List LitE), o = .returned v ∧ Q v As' Li' ∧ Inv G As' U'.heap ∧ LI G.Z U'.vm Li' ∧ Fr G.Z.heap.size L ∧ ReturnedEndW U o U' L R.cells R.slots ∧ (G.nw = true → U.WarmedH U'.vm))
section Calls
variable {G : Gx} {K : Kx} {y : MethodName} {code : ByteArray} {ret : Option FieldType} {R : Room} {Q : Qx} {As As' : List Ent} {Li Li' : List LitE} {cells slots pc pc' : Nat} {Ls Ls' : List Slot} {st st' : List Value}
theorem Ct.intro {ws : List Jvm.Cond} {mL : Nat} {args : List Value} (hp : plainFor y = true) (he : argsToLocals args.toArray mL = Ls.toArray) (hl : Ls.length = mL) (w : ∀ K, W G K y code ret R Q As Li 0 0 0 Ls []) :
    Ct G ws y code mL ret R args As Li Q := by
  refine MetFree.of_bodySF hp hisR ?_
  intro p e s m args' below meth c s₁ Bd hml0 hP hK
  obtain ⟨rfl, hZ, hI, hL⟩ := hP
  have X0 : Stand p G.l e R s m args.toArray below meth c s₁ [] 0 0 := Stand.of_body Bd
  have e0 : s₁.heap = s.heap := by rw [Bd.state]; rfl
  have ok : Ok G (p, e, s, m, args.toArray, below, meth, c) y code Ls.length ret := ⟨Bd.exec, Bd.bytes, hml0.trans hl.symm, hZ, findClass_of_methodNamed Bd.named, (name_of_methodNamed Bd.named Bd.method).1, Bd.returns, Bd.notSynchronized, Bd.named, hK, hI.1⟩
  obtain ⟨U, v, h1, h2, h3, L, A, I, h4, h5, h6, h7, h8, h9⟩ := w (p, e, s, m, args.toArray, below, meth, c) s₁ s.vm s.heap.size [] ok X0 ((State.WarmedH.refl s).since _) (by rw [e0]; exact Nat.le_refl _) (fun _ => State.WarmedH.refl s) (by rw [e0]; exact hI) hL (Fr.nil _)
  refine ⟨U, .returned v, ?_, h2, h3, v, L, A, I, rfl, h4, h5, h6, h7, h8, h9⟩
  have hE : entryFrame m args.toArray mL = mkF m 0 Ls.toArray [] := by
    show ({ method := m, pc := 0, locals := argsToLocals args.toArray mL, stack := [], locked := none } : JFrame) = _
    rw [he]
  rw [hE]
  exact h1
theorem Ct.weaken {ws : List Jvm.Cond} {mL : Nat} {args : List Value} {Q' : Qx} (h : Ct G ws y code mL ret R args As Li Q) (q : ∀ v A L, Q v A L → Q' v A L) : Ct G ws y code mL ret R args As Li Q' :=
  MetFree.mono h (fun _ _ h => h) (fun _ _ _ _ _ h => h) fun _ _ _ _ _ ⟨v, L, A, I, h1, h2, h3⟩ => ⟨v, L, A, I, h1, q _ _ _ h2, h3⟩
variable {z : MethodName} {code' : ByteArray} {ret' : Option FieldType} {R' : Room} {mL' : Nat} {Q' : Qx} {argsL rest : List Value} {idx : Nat} {sg : MethodDescriptor}
/-- what a call by its contract asks ahead and gives behind -/
abbrev PreC (G : Gx) (As : List Ent) (Li : List LitE) (R R' : Room) (as' : Array Value) : Pt → Array Value → Prop :=
  fun A a => a = as' ∧ Inv G As A.U.heap ∧ LI G.Z A.U.vm Li ∧ A.cells + R'.cells ≤ R.cells ∧ A.slots + R'.slots ≤ R.slots
abbrev PostC (G : Gx) (R' : Room) (Q' : Qx) : Pt → Array Value → Option Value → Pt → Prop :=
  fun A _ v B => ∃ (L : List Loc) (As' : List Ent) (Li' : List LitE), Q' v As' Li' ∧ Inv G As' B.U.heap ∧ LI G.Z B.U.vm Li' ∧ Fr G.Z.heap.size L ∧ (G.nw = true → A.U.WarmedH B.U.vm) ∧ B.locs = A.locs ++ L ∧ B.cells = A.cells + R'.cells ∧ B.slots = A.slots + R'.slots
theorem backC {p : Program} {e : Env} {below : List Frame} {s : State} {sargs : Array Value} {len Wt : Nat} (hfk : FK G below) (hC : Ct G [] z code' mL' ret' R' argsL As Li Q') (hZ : G.Z.Warmed39 s.vm) (wc : (Cond.code z code' mL' ret').before G.a0 G.Z = true) (wz : (Cond.initialized z.cls).before G.a0 G.Z = true)
    (hf : R'.frames + 1 ≤ R.frames) (hl : Wt + (mL' + 11) + R'.locals ≤ R.locals) : BackS G.l R p e below s sargs z len Wt (PreC G As Li R R' argsL.toArray) (PostC G R' Q') :=
  BackS.of_freeWG (bytes := code') (maxL := mL') (ret := ret')
    (E := fun _ first o t L k n => k = R'.cells ∧ n = R'.slots ∧ ∃ v, o = .returned v ∧ ∃ As' Li', Q' v As' Li' ∧ Inv G As' t.heap ∧ LI G.Z t.vm Li' ∧ Fr G.Z.heap.size L ∧ (G.nw = true → first.WarmedH t.vm)) hC hf hl
    (fun m meth c A a Y hp => have hU : G.Z.Warmed39 A.U.vm := wtrans hZ Y.warmed
      ⟨by show (Cond.and _ .tt).before a A.U = true; rw [Cond.before_and, mv hU wc]; rfl, mv hU wc, mv hU wz, hp.2.2.2.1, hp.2.2.2.2⟩)
    (fun m meth c A a g mk Y hp => ⟨hp.1, wtrans hZ Y.warmed, hp.2.1, hp.2.2.1⟩) (fun m meth c A a g mk Y _ hg => hfk.call hZ.alike Y.method hg (by rw [State.frames_setTop' _ Y.here.top, Y.tail]))
    (fun _ _ _ _ ⟨v, L, A, I, h1, h2, h3, h4, h5, h6, h7⟩ => ⟨L, _, _, h6, rfl, rfl, v, h1, A, I, h2, h3, h4, h5, h7⟩)
    (fun m meth c A a g mk v t L k n Y hp _ _ ⟨e1, e2, v', e3, A', I', q1, q2, q3, q4, q5⟩ => by cases e3; subst e1 e2; exact ⟨L, A', I', q1, q2, q3, q4, q5, rfl, rfl, rfl⟩)
theorem W.after {T : State} {vm0 : Vm} {k0 : Nat} {locs : List Loc} {len : Nat} {as' : Array Value} (ok : Ok G K y code Ls.length ret) (hS : K.s.Since vm0 k0) (hk : k0 ≤ T.heap.size) (hN : G.nw = true → K.s.WarmedH vm0) (hF : Fr G.Z.heap.size locs)
    {v : Option Value} {vm₁ : Vm} {B : Pt} (hW1 : (K.s.setVm vm0).WarmedH vm₁) (X' : Stand K.p G.l K.e R ((K.s.setVm vm0).setVm B.U.vm) K.m K.args K.below K.meth K.c B.U B.locs B.cells B.slots) (hS' : (K.s.setVm vm0).Since B.U.vm B.U.heap.size) (hg : T.heap.size ≤ B.U.heap.size)
    (hP : PostC G R' Q' ⟨T.setVm vm₁, locs, cells, slots⟩ as' v B) (stp : Steps K.p.tables K.e K.below (T.setTop (mkF K.m pc Ls.toArray st)) (B.U.setTop (mkF K.m (pc + len) Ls.toArray (v.toList ++ rest))))
    (nx : ∀ v As' Li', Q' v As' Li' → W G K y code ret R Q As' Li' (cells + R'.cells) (slots + R'.slots) (pc + len) Ls (v.toList ++ rest)) : Fini G K R Q (T.setTop (mkF K.m pc Ls.toArray st)) := by
  obtain ⟨U, L, c, n⟩ := B
  obtain ⟨L', A', I', q1, q2, q3, q4, q5, e1, e2, e3⟩ := hP
  dsimp only [Pt.U, Pt.locs, Pt.cells, Pt.slots] at *
  subst e1 e2 e3
  obtain ⟨V, u, h1, h2⟩ := nx v A' I' q1 U U.vm U.heap.size _ ok X' (hS.trans hS' (Nat.le_trans hk hg)) (Nat.le_refl _) (fun nw => State.WarmedH.trans (t := T.setVm vm₁) (State.WarmedH.trans (t := K.s.setVm vm0) (hN nw) hW1) (q5 nw)) q2 q3 (Fr.app hF q4)
  exact ⟨V, u, stp.trans h1, h2⟩
/-- the weight of what lies under a call's arguments -/
abbrev wt (rest : List Value) : Nat := (rest.map fun v => v.category).sum
theorem wt_le (rest : List Value) : 2 * (0 : Nat) + (rest.map fun v => v.category).sum ≤ wt rest := by simp [wt]
theorem W.callS (hC : Ct G [] z code' mL' ret' R' argsL As Li Q') (hd : decode code pc = .ok (.invokestatic idx, 3)) (wl : (Cond.methodLink y.cls idx z).before G.a0 G.Z = true) (ws : (Cond.static z).before G.a0 G.Z = true) (wz : (Cond.initialized z.cls).before G.a0 G.Z = true) (wc : (Cond.code z code' mL' ret').before G.a0 G.Z = true)
    (hy : z.cls ≠ "java/lang/invoke/MethodHandle" ∧ z.cls ≠ "java/lang/invoke/VarHandle") (hp : parseMethodDescriptor z.desc = some sg) (hn : argsL.length = sg.parameters.length) (hst : st = argsL.reverse ++ rest)
    (hf : R'.frames + 1 ≤ R.frames) (hl : wt rest + (mL' + 11) + R'.locals ≤ R.locals) (hc : cells + R'.cells ≤ R.cells) (hs : slots + R'.slots ≤ R.slots)
    (nx : ∀ v As' Li', Q' v As' Li' → W G K y code ret R Q As' Li' (cells + R'.cells) (slots + R'.slots) (pc + 3) Ls (v.toList ++ rest)) : W G K y code ret R Q As Li cells slots pc Ls st := by
  intro T vm0 k0 locs ok X hS hk hN hI hL hF
  have hZ := ok_Z ok hS
  obtain ⟨v, vm₁, B, hW1, X', hS', hg, hP, stp⟩ := callSS X ok.1 (ok_own ok hS) (mvT hZ wl) (mvT hZ ws) (mvT hZ wz) (mvT hZ wc) hy (backC (ok_fk ok) hC hZ wc wz hf hl) (g := mkF K.m pc Ls.toArray st) rfl (by rw [ok.2.2.1]; simp) (argsL := argsL) (rest := rest) (fun sig h => by cases hp.symm.trans h; exact hn) hst (wt_le rest) (hb ok.2.1 hd) (fun vm₁ hw => ⟨rfl, hI, hL.warm hw, hc, hs⟩)
  exact W.after ok hS hk hN hF hW1 X' hS' hg hP stp nx
theorem mvMN {Z s : State} {a0 args : Array Value} {own host : String} {idx : Nat} {x : MethodName} (hZ : Z.Warmed39 s.vm) (w : (Cond.methodLinkNest own idx x host).before a0 Z = true) : (Cond.methodLinkNest own idx x host).before args s = true := (Cond.methodLinkNest_wide hZ w :)
theorem W.callSN {host : String} (hC : Ct G [] z code' mL' ret' R' argsL As Li Q') (hd : decode code pc = .ok (.invokestatic idx, 3)) (wl : (Cond.methodLinkNest y.cls idx z host).before G.a0 G.Z = true) (ws : (Cond.static z).before G.a0 G.Z = true) (wz : (Cond.initialized z.cls).before G.a0 G.Z = true) (wc : (Cond.code z code' mL' ret').before G.a0 G.Z = true)
    (hy : z.cls ≠ "java/lang/invoke/MethodHandle" ∧ z.cls ≠ "java/lang/invoke/VarHandle") (hp : parseMethodDescriptor z.desc = some sg) (hn : argsL.length = sg.parameters.length) (hst : st = argsL.reverse ++ rest)
    (hf : R'.frames + 1 ≤ R.frames) (hl : wt rest + (mL' + 11) + R'.locals ≤ R.locals) (hc : cells + R'.cells ≤ R.cells) (hs : slots + R'.slots ≤ R.slots)
    (nx : ∀ v As' Li', Q' v As' Li' → W G K y code ret R Q As' Li' (cells + R'.cells) (slots + R'.slots) (pc + 3) Ls (v.toList ++ rest)) : W G K y code ret R Q As Li cells slots pc Ls st := by
  intro T vm0 k0 locs ok X hS hk hN hI hL hF
  have hZ := ok_Z ok hS
  obtain ⟨v, vm₁, B, hW1, X', hS', hg, hP, stp⟩ := callSNS X ok.1 (ok_own ok hS) (mvMN hZ wl) (mvT hZ ws) (mvT hZ wz) (mvT hZ wc) hy (backC (ok_fk ok) hC hZ wc wz hf hl) (g := mkF K.m pc Ls.toArray st) rfl (by rw [ok.2.2.1]; simp) (argsL := argsL) (rest := rest) (fun sig h => by cases hp.symm.trans h; exact hn) hst (wt_le rest) (hb ok.2.1 hd) (fun vm₁ hw => ⟨rfl, hI, hL.warm hw, hc, hs⟩)
  exact W.after ok hS hk hN hF hW1 X' hS' hg hP stp nx
variable {a : Addr} {C : String}
/-- a constructor -/
theorem W.callI (hC : Ct G [] z code' mL' none R' (.ref a :: argsL) As Li Q') (hd : decode code pc = .ok (.invokespecial idx, 3)) (h1 : z.name = "<init>") (wl : (Cond.methodLink y.cls idx z).before G.a0 G.Z = true) (wi : (Cond.instanceMethod z).before G.a0 G.Z = true) (wz : (Cond.initialized z.cls).before G.a0 G.Z = true) (wc : (Cond.code z code' mL' none).before G.a0 G.Z = true)
    (hy : z.cls ≠ "java/lang/invoke/MethodHandle" ∧ z.cls ≠ "java/lang/invoke/VarHandle") (hp : parseMethodDescriptor z.desc = some sg) (hn : argsL.length = sg.parameters.length) (hst : st = argsL.reverse ++ .ref a :: rest)
    (hf : R'.frames + 1 ≤ R.frames) (hl : wt rest + (mL' + 11) + R'.locals ≤ R.locals) (hc : cells + R'.cells ≤ R.cells) (hs : slots + R'.slots ≤ R.slots)
    (nx : ∀ v As' Li', Q' v As' Li' → W G K y code ret R Q As' Li' (cells + R'.cells) (slots + R'.slots) (pc + 3) Ls (v.toList ++ rest)) : W G K y code ret R Q As Li cells slots pc Ls st := by
  intro T vm0 k0 locs ok X hS hk hN hI hL hF
  have hZ := ok_Z ok hS
  obtain ⟨v, vm₁, B, hW1, X', hS', hg, hP, stp⟩ := X.specialBackS ok.1 h1 (ok_own ok hS) (mvT hZ wl) (mvT hZ wi) (mvT hZ wc) hy (backC (ok_fk ok) hC hZ wc wz hf hl) (g := mkF K.m pc Ls.toArray st) rfl (by rw [ok.2.2.1]; simp) (Steps.refl _) (a := a) (argsL := argsL) (rest := rest) (fun sig h => by cases hp.symm.trans h; exact hn) hst (wt_le rest) (hb ok.2.1 hd) (fun vm₁ hw => ⟨rfl, hI, hL.warm hw, hc, hs⟩)
  exact W.after ok hS hk hN hF hW1 X' hS' hg hP stp nx
theorem W.callIN {host : String} (hC : Ct G [] z code' mL' none R' (.ref a :: argsL) As Li Q') (hd : decode code pc = .ok (.invokespecial idx, 3)) (h1 : z.name = "<init>") (wl : (Cond.methodLinkNest y.cls idx z host).before G.a0 G.Z = true) (wi : (Cond.instanceMethod z).before G.a0 G.Z = true) (wz : (Cond.initialized z.cls).before G.a0 G.Z = true) (wc : (Cond.code z code' mL' none).before G.a0 G.Z = true)
    (hy : z.cls ≠ "java/lang/invoke/MethodHandle" ∧ z.cls ≠ "java/lang/invoke/VarHandle") (hp : parseMethodDescriptor z.desc = some sg) (hn : argsL.length = sg.parameters.length) (hst : st = argsL.reverse ++ .ref a :: rest)
    (hf : R'.frames + 1 ≤ R.frames) (hl : wt rest + (mL' + 11) + R'.locals ≤ R.locals) (hc : cells + R'.cells ≤ R.cells) (hs : slots + R'.slots ≤ R.slots)
    (nx : ∀ v As' Li', Q' v As' Li' → W G K y code ret R Q As' Li' (cells + R'.cells) (slots + R'.slots) (pc + 3) Ls (v.toList ++ rest)) : W G K y code ret R Q As Li cells slots pc Ls st := by
  intro T vm0 k0 locs ok X hS hk hN hI hL hF
  have hZ := ok_Z ok hS
  obtain ⟨v, vm₁, B, hW1, X', hS', hg, hP, stp⟩ := X.specialBackNestS ok.1 h1 (ok_own ok hS) (mvMN hZ wl) (mvT hZ wi) (mvT hZ wc) hy (backC (ok_fk ok) hC hZ wc wz hf hl) (g := mkF K.m pc Ls.toArray st) rfl (by rw [ok.2.2.1]; simp) (Steps.refl _) (a := a) (argsL := argsL) (rest := rest) (fun sig h => by cases hp.symm.trans h; exact hn) hst (wt_le rest) (hb ok.2.1 hd) (fun vm₁ hw => ⟨rfl, hI, hL.warm hw, hc, hs⟩)
  exact W.after ok hS hk hN hF hW1 X' hS' hg hP stp nx
/-- java.lang.Object's -/
theorem W.callO (hd : decode code pc = .ok (.invokespecial idx, 3)) (wl : (Cond.methodLink y.cls idx Lib.objectInit).before G.a0 G.Z = true) (wi : (Cond.instanceMethod Lib.objectInit).before G.a0 G.Z = true) (wc : (Cond.code Lib.objectInit ⟨#[0xb1]⟩ 1 none).before G.a0 G.Z = true)
    (hf : 1 ≤ R.frames) (hl : wt st + 12 ≤ R.locals) (nx : W G K y code ret R Q As Li cells slots (pc + 3) Ls st) : W G K y code ret R Q As Li cells slots pc Ls (.ref a :: st) := by
  intro T vm0 k0 locs ok X hS hk hN hI hL hF
  obtain ⟨T', X', e', st'⟩ := initO X ok.1 (ok_Z ok hS) (ok_own ok hS) wl wi wc rfl (g := mkF K.m pc Ls.toArray (.ref a :: st)) rfl (by rw [ok.2.2.1]; simp) rfl (hb ok.2.1 hd) hf (wt_le st) hl
  obtain ⟨U, u, h1, h2⟩ := nx T' vm0 k0 locs ok X' hS (by rw [e']; exact hk) hN (by rw [e']; exact hI) hL hF
  exact ⟨U, u, st' _ h1, h2⟩
/-- an instance method that the receiver's class selects; the entry's class x declares it -/
theorem W.callV {x : MethodName} (hC : Ct G [] z code' mL' ret' R' (.ref a :: argsL) As Li Q') (hd : decode code pc = .ok (.invokevirtual idx, 3)) (hm : Is G As a C) (wl : (Cond.methodLink y.cls idx x).before G.a0 G.Z = true) (wd : (Cond.declares x).before G.a0 G.Z = true) (nf : ∀ s : State, G.Z.Warmed39 s.vm → NotFace s x) (wsel : (Cond.selects C x z).before G.a0 G.Z = true)
    (wi : (Cond.instanceMethod z).before G.a0 G.Z = true) (wz : (Cond.initialized z.cls).before G.a0 G.Z = true) (wc : (Cond.code z code' mL' ret').before G.a0 G.Z = true)
    (hy : x.cls ≠ "java/lang/invoke/MethodHandle" ∧ x.cls ≠ "java/lang/invoke/VarHandle") (hp : parseMethodDescriptor x.desc = some sg) (hn : argsL.length = sg.parameters.length) (hst : st = argsL.reverse ++ .ref a :: rest)
    (hf : R'.frames + 1 ≤ R.frames) (hl : wt rest + (mL' + 11) + R'.locals ≤ R.locals) (hc : cells + R'.cells ≤ R.cells) (hs : slots + R'.slots ≤ R.slots)
    (nx : ∀ v As' Li', Q' v As' Li' → W G K y code ret R Q As' Li' (cells + R'.cells) (slots + R'.slots) (pc + 3) Ls (v.toList ++ rest)) : W G K y code ret R Q As Li cells slots pc Ls st := by
  intro T vm0 k0 locs ok X hS hk hN hI hL hF
  have hZ := ok_Z ok hS
  obtain ⟨cB, kB, q1, q2, q3⟩ := isOf (T := T) hZ rfl (hm.exa hI)
  obtain ⟨v, vm₁, B, hW1, X', hS', hg, hP, stp⟩ := X.virtualBackS ok.1 (ok_own ok hS) (mvT hZ wl) (mvT hZ wd) (nf _ hZ) (mvT hZ wsel) (mvT hZ wi) hy (backC (ok_fk ok) hC hZ wc wz hf hl) q1 q3 (g := mkF K.m pc Ls.toArray st) rfl (by rw [ok.2.2.1]; simp) (Steps.refl _) (argsL := argsL) (rest := rest) (fun sig h => by cases hp.symm.trans h; exact hn) hst (wt_le rest) (hb ok.2.1 hd) (fun vm₁ hw => ⟨rfl, hI, hL.warm hw, hc, hs⟩)
  exact W.after ok hS hk hN hF hW1 X' hS' hg hP stp nx
theorem nf_sel {x : MethodName} (w : (Cond.selects C x x).before G.a0 G.Z = true) : ∀ s : State, G.Z.Warmed39 s.vm → NotFace s x := fun s hZ => notFace_of_selects (args := #[]) (mvT hZ w)
theorem nf_sup {x : MethodName} {S : String} (w : (Cond.superclass x.cls S).before G.a0 G.Z = true) : ∀ s : State, G.Z.Warmed39 s.vm → NotFace s x := fun s hZ => nf_super (args := #[]) (mvT hZ w)
theorem nf_tp {x : MethodName} (w : (Cond.noSuperclass x.cls).before G.a0 G.Z = true) : ∀ s : State, G.Z.Warmed39 s.vm → NotFace s x := fun s hZ => nf_top (args := #[]) (mvT hZ w)
/-- .. declared above the entry's class -/
theorem W.callU {x : MethodName} {owner : String} (hC : Ct G [] z code' mL' ret' R' (.ref a :: argsL) As Li Q') (hd : decode code pc = .ok (.invokevirtual idx, 3)) (hm : Is G As a C) (wl : (Cond.methodLink y.cls idx x).before G.a0 G.Z = true) (wsm : (Cond.sameMethod x.cls owner x.name x.desc).before G.a0 G.Z = true) (wd : (Cond.declares ⟨owner, x.name, x.desc⟩).before G.a0 G.Z = true) (ho : owner ≠ "java/lang/invoke/MethodHandle" ∧ owner ≠ "java/lang/invoke/VarHandle") (wsel : (Cond.selects C x z).before G.a0 G.Z = true)
    (wi : (Cond.instanceMethod z).before G.a0 G.Z = true) (wz : (Cond.initialized z.cls).before G.a0 G.Z = true) (wc : (Cond.code z code' mL' ret').before G.a0 G.Z = true)
    (hp : parseMethodDescriptor x.desc = some sg) (hn : argsL.length = sg.parameters.length) (hst : st = argsL.reverse ++ .ref a :: rest)
    (hf : R'.frames + 1 ≤ R.frames) (hl : wt rest + (mL' + 11) + R'.locals ≤ R.locals) (hc : cells + R'.cells ≤ R.cells) (hs : slots + R'.slots ≤ R.slots)
    (nx : ∀ v As' Li', Q' v As' Li' → W G K y code ret R Q As' Li' (cells + R'.cells) (slots + R'.slots) (pc + 3) Ls (v.toList ++ rest)) : W G K y code ret R Q As Li cells slots pc Ls st := by
  intro T vm0 k0 locs ok X hS hk hN hI hL hF
  have hZ := ok_Z ok hS
  obtain ⟨cB, kB, q1, q2, q3⟩ := isOf (T := T) hZ rfl (hm.exa hI)
  obtain ⟨v, vm₁, B, hW1, X', hS', hg, hP, stp⟩ := X.virtualBackUpS ok.1 (ok_own ok hS) (mvT hZ wl) (mvT hZ wsm) (mvT hZ wd) ho (mvT hZ wsel) (mvT hZ wi) (backC (ok_fk ok) hC hZ wc wz hf hl) q1 q3 (g := mkF K.m pc Ls.toArray st) rfl (by rw [ok.2.2.1]; simp) (Steps.refl _) (argsL := argsL) (rest := rest) (fun sig h => by cases hp.symm.trans h; exact hn) hst (wt_le rest) (hb ok.2.1 hd) (fun vm₁ hw => ⟨rfl, hI, hL.warm hw, hc, hs⟩)
  exact W.after ok hS hk hN hF hW1 X' hS' hg hP stp nx
/-- through an interface -/
theorem W.callF {x : MethodName} {cnt : Nat} (hC : Ct G [] z code' mL' ret' R' (.ref a :: argsL) As Li Q') (hd : decode code pc = .ok (.invokeinterface idx cnt, 5)) (hm : Is G As a C) (wl : (Cond.methodLink y.cls idx x).before G.a0 G.Z = true) (wd : (Cond.declares x).before G.a0 G.Z = true) (wf : (Cond.interfaceMethod x.cls x.cls x.name x.desc).before G.a0 G.Z = true) (wsel : (Cond.selects C x z).before G.a0 G.Z = true)
    (wi : (Cond.instanceMethod z).before G.a0 G.Z = true) (wp : (Cond.publicMethod z).before G.a0 G.Z = true) (wu : (Cond.unhidden C x.name x.desc).before G.a0 G.Z = true) (wk : (Cond.castable C x.cls).before G.a0 G.Z = true) (wz : (Cond.initialized z.cls).before G.a0 G.Z = true) (wc : (Cond.code z code' mL' ret').before G.a0 G.Z = true)
    (hy : x.cls ≠ "java/lang/invoke/MethodHandle" ∧ x.cls ≠ "java/lang/invoke/VarHandle") (hfa : ((Cond.interfaceMethod x.cls x.cls x.name x.desc).onTables && (Cond.interfaceMethod x.cls x.cls x.name x.desc).keepsFace) = true) (hp : parseMethodDescriptor x.desc = some sg) (hn : argsL.length = sg.parameters.length) (hst : st = argsL.reverse ++ .ref a :: rest)
    (hf : R'.frames + 1 ≤ R.frames) (hl : wt rest + (mL' + 11) + R'.locals ≤ R.locals) (hc : cells + R'.cells ≤ R.cells) (hs : slots + R'.slots ≤ R.slots)
    (nx : ∀ v As' Li', Q' v As' Li' → W G K y code ret R Q As' Li' (cells + R'.cells) (slots + R'.slots) (pc + 5) Ls (v.toList ++ rest)) : W G K y code ret R Q As Li cells slots pc Ls st := by
  intro T vm0 k0 locs ok X hS hk hN hI hL hF
  have hZ := ok_Z ok hS
  obtain ⟨cB, kB, q1, q2, q3⟩ := isOf (T := T) hZ rfl (hm.exa hI)
  obtain ⟨v, vm₁, B, hW1, X', hS', hg, hP, stp⟩ := X.interfaceBackS ok.1 (ok_own ok hS) (mvT hZ wl) (mvT hZ wd) (mvT hZ wf hfa) (mvT hZ wsel) (mvT hZ wi) (mvT hZ wp) (mvT hZ wu) (mvT hZ wk) hy (backC (ok_fk ok) hC hZ wc wz hf hl) q1 q2 q3 (g := mkF K.m pc Ls.toArray st) rfl (by rw [ok.2.2.1]; simp) (Steps.refl _) (argsL := argsL) (rest := rest) (fun sig h => by cases hp.symm.trans h; exact hn) hst (wt_le rest) (hb ok.2.1 hd) (fun vm₁ hw => ⟨rfl, hI, hL.warm hw, hc, hs⟩)
  exact W.after ok hS hk hN hF hW1 X' hS' hg hP stp nx
/-- a private method by invokevirtual -/
theorem W.callP (hC : Ct G [] z code' mL' ret' R' (.ref a :: argsL) As Li Q') (hd : decode code pc = .ok (.invokevirtual idx, 3)) (hm : Is G As a C) (wl : (Cond.methodLink y.cls idx z).before G.a0 G.Z = true) (wi : (Cond.instanceMethod z).before G.a0 G.Z = true) (wsel : (Cond.selects z.cls z z).before G.a0 G.Z = true) (wp : (Cond.privateMethod z).before G.a0 G.Z = true) (wz : (Cond.initialized z.cls).before G.a0 G.Z = true) (wc : (Cond.code z code' mL' ret').before G.a0 G.Z = true)
    (hy : z.cls ≠ "java/lang/invoke/MethodHandle" ∧ z.cls ≠ "java/lang/invoke/VarHandle") (hp : parseMethodDescriptor z.desc = some sg) (hn : argsL.length = sg.parameters.length) (hst : st = argsL.reverse ++ .ref a :: rest)
    (hf : R'.frames + 1 ≤ R.frames) (hl : wt rest + (mL' + 11) + R'.locals ≤ R.locals) (hc : cells + R'.cells ≤ R.cells) (hs : slots + R'.slots ≤ R.slots)
    (nx : ∀ v As' Li', Q' v As' Li' → W G K y code ret R Q As' Li' (cells + R'.cells) (slots + R'.slots) (pc + 3) Ls (v.toList ++ rest)) : W G K y code ret R Q As Li cells slots pc Ls st := by
  intro T vm0 k0 locs ok X hS hk hN hI hL hF
  have hZ := ok_Z ok hS
  obtain ⟨cl, q1, q2⟩ := (hm.exa hI).cell
  obtain ⟨v, vm₁, B, hW1, X', hS', hg, hP, stp⟩ := X.privateBackS ok.1 (ok_own ok hS) (mvT hZ wl) (mvT hZ wi) (mvT hZ wsel) (Cond.privateMethod_at (mvP hZ wp (args := #[]))) (mvT hZ wc) hy (backC (ok_fk ok) hC hZ wc wz hf hl) (g := mkF K.m pc Ls.toArray st) rfl (by rw [ok.2.2.1]; simp) (Steps.refl _) (a := a) q1 q2 (argsL := argsL) (rest := rest) (fun sig h => by cases hp.symm.trans h; exact hn) hst (wt_le rest) (hb ok.2.1 hd) (fun vm₁ hw => ⟨rfl, hI, hL.warm hw, hc, hs⟩)
  exact W.after ok hS hk hN hF hW1 X' hS' hg hP stp nx
/-- super.m(..) -/
theorem W.callX (hC : Ct G [] z code' mL' ret' R' (.ref a :: argsL) As Li Q') (hd : decode code pc = .ok (.invokespecial idx, 3)) (hm : Is G As a C) (wl : (Cond.methodLink y.cls idx z).before G.a0 G.Z = true) (wsm : (Cond.sameMethod z.cls z.cls z.name z.desc).before G.a0 G.Z = true) (wi : (Cond.instanceMethod z).before G.a0 G.Z = true) (wsup : (Cond.superclass y.cls z.cls).before G.a0 G.Z = true) (hni : z.name ≠ "<init>") (wz : (Cond.initialized z.cls).before G.a0 G.Z = true) (wc : (Cond.code z code' mL' ret').before G.a0 G.Z = true)
    (hp : parseMethodDescriptor z.desc = some sg) (hn : argsL.length = sg.parameters.length) (hst : st = argsL.reverse ++ .ref a :: rest)
    (hf : R'.frames + 1 ≤ R.frames) (hl : wt rest + (mL' + 11) + R'.locals ≤ R.locals) (hc : cells + R'.cells ≤ R.cells) (hs : slots + R'.slots ≤ R.slots)
    (nx : ∀ v As' Li', Q' v As' Li' → W G K y code ret R Q As' Li' (cells + R'.cells) (slots + R'.slots) (pc + 3) Ls (v.toList ++ rest)) : W G K y code ret R Q As Li cells slots pc Ls st := by
  intro T vm0 k0 locs ok X hS hk hN hI hL hF
  have hZ := ok_Z ok hS
  obtain ⟨v, vm₁, B, hW1, X', hS', hg, hP, stp⟩ := superBackS X ok.1 hZ (ok_own ok hS) wl wsm wi wsup hni (backC (ok_fk ok) hC hZ wc wz hf hl) rfl (Ins.self (hm.exa hI)) (g := mkF K.m pc Ls.toArray st) rfl (by rw [ok.2.2.1]; simp) wc (argsL := argsL) (rest := rest) (fun sig h => by cases hp.symm.trans h; exact hn) hst (wt_le rest) (hb ok.2.1 hd) (fun vm₁ hw => ⟨rfl, hI, hL.warm hw, hc, hs⟩)
  exact W.after ok hS hk hN hF hW1 X' hS' hg hP stp nx
end Calls
end Jvm.Own
namespace Jvm.Own
open Sem ClassFile Op Lib Jvm.Stand Jvm.Free Jvm.LawKit Jvm.RoadKit
/-! ### the case's start -/
theorem Inv.start (l : Launch) (s : State) (a0 : Array Value) (b : Bool) : Inv (l, s, a0, b) [] s.heap := ⟨⟨Nat.le_refl _, fun _ _ q => q⟩, List.Pairwise.nil, fun _ h => nomatch h⟩
theorem LI.start (s : State) : LI s s.vm [] := ⟨IB.start, (fun _ h => nomatch h), fun _ h => nomatch h⟩
end Jvm.Own
namespace Jvm.Own
open Sem ClassFile Op Lib Bundle Jvm.Stand Jvm.Free Jvm.Free.SB Jvm.Free.SBG Jvm.LawKit Jvm.RoadKit
/-! ### String constants -/
theorem own_fold (xs : List Cell) : ∀ n : Nat, xs.foldl (fun n c => n + c.slots.size) n = n + (xs.map fun c => c.slots.size).sum := by
  induction xs with
  | nil => intro n; simp
  | cons x xs ih => intro n; simp only [List.foldl_cons, List.map_cons, List.sum_cons]; rw [ih]; omega
theorem own_foldA (h : Heap) : h.foldl (fun n c => n + c.slots.size) 0 = (h.toList.map fun c => c.slots.size).sum := by
  rw [← Array.foldl_toList, own_fold]; omega
theorem own_split {h h' : Heap} (E : Ext h h') : h'.toList = h.toList ++ h'.toList.drop h.size := by
  refine List.ext_getElem? fun i => ?_
  by_cases hi : i < h.size
  · rw [List.getElem?_append_left (by simpa using hi), Array.getElem?_toList, Array.getElem?_toList, Array.getElem?_eq_getElem hi]
    exact E.2 i _ (Array.getElem?_eq_getElem hi)
  · rw [List.getElem?_append_right (by simpa using Nat.le_of_not_lt hi), List.getElem?_drop]
    simp only [Array.length_toList]
    congr 1
    omega
theorem own_sums {h h' : Heap} (E : Ext h h') : (h'.toList.map fun c => c.slots.size).sum = (h.toList.map fun c => c.slots.size).sum + ((h'.toList.drop h.size).map fun c => c.slots.size).sum := by
  conv => lhs; rw [own_split E]
  simp
/-- the invocation, told as if it had begun at the case's own heap -/
abbrev rebS0 (G : Gx) (s : State) (vm0 : Vm) : State := { s with vm := vm0, heap := G.Z.heap, slotsUsed := (G.Z.heap.toList.map fun c => c.slots.size).sum }
theorem rebase {G : Gx} {p : Program} {l : Launch} {e : Env} {R : Room} {s : State} {vm0 : Vm} {m : MethodId} {args : Array Value} {below : List Frame} {meth : Method} {c : Code} {T : State} {locs : List Loc} {cells slots : Nat}
    (X : Stand p l e R (s.setVm vm0) m args below meth c T locs cells slots) (E : Ext G.Z.heap T.heap) (hc : cells ≤ R.cells) (hs : slots ≤ R.slots) :
    Stand p l e { R with cells := (T.heap.size - G.Z.heap.size) + (R.cells - cells), slots := ((T.heap.toList.drop G.Z.heap.size).map fun c => c.slots.size).sum + (R.slots - slots) } (rebS0 G s vm0) m args below meth c T [] (T.heap.size - G.Z.heap.size) ((T.heap.toList.drop G.Z.heap.size).map fun c => c.slots.size).sum := by
  have bk : T.slotsUsed = (T.heap.toList.map fun c => c.slots.size).sum := by
    have h := X.book
    simp only [State.slotsTrue, beq_iff_eq] at h
    rw [h]; exact own_foldA _
  have sm := own_sums E
  have h1 := X.heapSize
  have h2 := X.used
  have hE := E.1
  refine ⟨X.admits, X.cas, X.clock, X.frames, ?_, X.hears, X.method, X.code, X.here, X.tail, X.warmed, X.limits, X.bytes, X.same.1, hE, ?_, ?_, Nat.le_refl _, fun a c h => ⟨c, E.2 a c h, rfl, rfl, fun _ _ => rfl⟩⟩
  · have h := X.room
    simp only [State.hasRoom, Bool.and_eq_true, decide_eq_true_eq] at h ⊢
    obtain ⟨⟨⟨⟨r1, r2⟩, r3⟩, r4⟩, r5⟩ := h
    have r3' : s.heap.size + R.cells ≤ e.platform.maxCells := r3
    have r4' : s.slotsUsed + R.slots ≤ e.platform.maxSlots := r4
    have h1' : T.heap.size ≤ s.heap.size + cells := h1
    have h2' : T.slotsUsed ≤ s.slotsUsed + slots := h2
    refine ⟨⟨⟨⟨r1, r2⟩, ?_⟩, ?_⟩, ?_⟩
    · show G.Z.heap.size + ((T.heap.size - G.Z.heap.size) + (R.cells - cells)) ≤ e.platform.maxCells
      omega
    · show (G.Z.heap.toList.map fun c => c.slots.size).sum + (((T.heap.toList.drop G.Z.heap.size).map fun c => c.slots.size).sum + (R.slots - slots)) ≤ e.platform.maxSlots
      omega
    · show (_ == _) = true
      rw [beq_iff_eq]
      exact (own_foldA _).symm
  · show T.heap.size ≤ G.Z.heap.size + (T.heap.size - G.Z.heap.size)
    omega
  · show T.slotsUsed = (G.Z.heap.toList.map fun c => c.slots.size).sum + _
    rw [bk, sm]; rfl
def litF : List Fd := [("java/lang/String", "value", "[B"), ("java/lang/String", "coder", "B")]
section Laws
variable {G : Gx} {K : Kx} {y : MethodName} {code : ByteArray} {ret : Option FieldType} {R : Room} {Q : Qx} {As As' : List Ent} {Li Li' : List LitE} {cells slots pc pc' : Nat} {Ls Ls' : List Slot} {st st' : List Value} {idx : Nat} {a : Addr}
theorem W.ldcA {text : String} (hd : decode code pc = .ok (.ldc idx, 2)) (w : (Cond.stringLink y.cls idx text).before G.a0 G.Z = true) (hl : (y.cls, idx, text, a) ∈ Li)
    (nx : W G K y code ret R Q As Li cells slots (pc + 2) Ls (.ref a :: st)) : W G K y code ret R Q As Li cells slots pc Ls st := by
  intro T vm0 k0 locs ok X hS hk hN hI hL hF
  obtain ⟨U, u, h1, h2⟩ := nx T vm0 k0 locs ok X hS hk hN hI hL hF
  exact ⟨U, u, ldcAgain X ok.1 (ok_Z ok hS) (ok_own ok hS) w (hL.2.1 _ hl) (g := mkF K.m pc Ls.toArray st) rfl (hb ok.2.1 hd) _ h1, h2⟩
/-- where an interned text of the walk's lies -/
theorem LI.where_ {Z : State} {vm : Vm} {Li : List LitE} {text : String} (L : LI Z vm Li) {units : Array UInt16} {a : Addr} (hu : utf16ToString? units = some text) (hf : vm.interned.find? (fun p => p.1 == units) = some (units, a)) :
    (∃ r ∈ Li, r.2.2.1 = text ∧ r.2.2.2 = a) ∨ Z.vm.interned.find? (fun p => p.1 == units) = some (units, a) := by
  by_cases hm : text ∈ Li.map fun q => q.2.2.1
  · obtain ⟨q, hq, e⟩ := List.mem_map.mp hm
    obtain rfl : q.2.2.1 = text := e
    exact L.2.2 q hq units a hu hf
  · obtain ⟨more, e, hx⟩ := L.1
    rw [e, Array.find?_append] at hf
    cases hs : Z.vm.interned.find? (fun p => p.1 == units) with
    | some pr => rw [hs] at hf; exact Or.inr (by simpa using hf)
    | none =>
      rw [hs, Option.none_or] at hf
      obtain ⟨t, ht, hd⟩ := hx _ (Array.mem_of_find?_eq_some hf)
      cases hu.symm.trans hd
      exact absurd ht hm
/-- the constants of that text that the walk has loaded: each is here, and its signs are vs -/
def LitG (As : List Ent) (Li : List LitE) (text : String) (vs : List Value) : Prop := ∀ q ∈ Li, q.2.2.1 = text → ∃ b, (q.2.2.2, false, obj "java/lang/String" litF [.ref b, .int 0]) ∈ As ∧ (b, false, arr .byte vs) ∈ As
/-- a String as the VM lays one, told in the walk's words -/
theorem sl_des {G : Gx} {U : State} {q : SQ} {cS : ClassId} {units : Array UInt16} {text : String} {vs : List Value} (hal : G.Z.vm.Alike U.vm) (S : Sl q cS U) (hk : ∃ kS : Class, U.vm.classes[cS]? = some kS ∧ kS.kind = .ordinary ∧ q.sC.slots.size = kS.instanceTypes.size)
    (hB' : U.vm.findClass "[B" = some q.SA.cls) (hbyt : q.SA.slots = stringBytes units) (htext : utf16ToString? units = some text) (ht : (∀ c ∈ text.toList, c.toNat < 256) ∧ text.toList.map (fun c => Value.int (Jvm.Lit.byteI c.toNat.toUInt16)) = vs) :
    Des G.Z G.a0 U.heap q.sa false (obj "java/lang/String" litF [.ref q.sd, .int 0]) ∧ Des G.Z G.a0 U.heap q.sd false (arr .byte vs) := by
  obtain ⟨⟨s1, s2, s3, ⟨cv, kv, iv, s4, s4'⟩, ⟨cc, kc, ic, s5, s5'⟩, s6, s7, s8, s9, s10, s11, s12, s13, s14, s15, s16⟩, hfS, hcS⟩ := S
  obtain ⟨kS, k1, k2, k3⟩ := hk
  obtain ⟨kv', z4⟩ := ff_back hal s4
  obtain ⟨kc', z5⟩ := ff_back hal s5
  have hfZ : G.Z.vm.findClass "java/lang/String" = some q.sC.cls := by rw [← hal.findClass, hcS]; exact hfS
  obtain ⟨kz, hkz, -⟩ := Vm.findClass_spec hfZ
  obtain ⟨kz', hkz', ekz⟩ := hal.2.2 _ _ hkz
  have ekS : kz' = kS := Option.some.inj (hkz'.symm.trans (hcS ▸ k1))
  have hBZ : G.Z.vm.findClass "[B" = some q.SA.cls := by rw [← hal.findClass]; exact hB'
  obtain ⟨kb, hkb, -⟩ := Vm.findClass_spec hBZ
  obtain ⟨kb', hkb', ekb⟩ := hal.2.2 _ _ hkb
  obtain ⟨hst, k9, hk9, comp, hkind9⟩ := s11
  have ek9 : k9 = kb' := Option.some.inj (hk9.symm.trans hkb')
  have hAZ : G.Z.isArrayOf q.SA .byte := ⟨hst, kb, hkb, comp, by rw [ek9, ekb] at hkind9; exact hkind9⟩
  have hlat := Jvm.ClassFile.lat_of_text htext ht.1
  have eu : vs = units.toList.map fun u => Value.int (Jvm.Lit.byteI u) := by rw [← ht.2, Jvm.ClassFile.units_of_text htext ht.1, List.map_map]; rfl
  have hsl0 : q.SA.slots = units.map fun u => Value.int (Jvm.Lit.byteI u) := by rw [hbyt, SBG.stringBytes_lat hlat]; rfl
  have hsl : q.SA.slots.toList = vs := by rw [hsl0, eu, Array.toList_map]
  refine ⟨⟨⟨q.sC, kz, s1, hfZ, hkz, s3, fun ho => by rw [k3, ← ekS, ekz]⟩, rfl, fun i f v hf hv => ?_, fun q => nomatch q⟩, ?_⟩
  · match i, hf, hv with
    | 0, hf, hv => cases hf; cases hv; exact ⟨q.sC, cv, kv', iv, q.fSV, s1, z4, s6, s2, s3, by rw [← hal.assignable]; exact s4', s8⟩
    | 1, hf, hv => cases hf; cases hv; exact ⟨q.sC, cc, kc', ic, q.fSC, s1, z5, s7, s2, s3, by rw [← hal.assignable]; exact s5', s9⟩
  · refine ⟨q.SA, ⟨s10, hAZ, s12⟩, hsl, ?_, fun v hv => ?_, fun q => nomatch q⟩
    · rw [← hsl]; simpa [s13] using s14
    · rw [← hsl] at hv
      obtain ⟨i, hi, rfl⟩ := List.getElem_of_mem hv
      have hi' : i < q.SA.slots.size := by simpa using hi
      have := s16 i hi'
      rw [Array.getD_eq_getD_getElem?, Array.getElem?_eq_getElem hi'] at this
      simpa using this
/-- two cells that the walk doesn't own come to its list -/
theorem Inv.two {G : Gx} {As : List Ent} {h : Heap} {a b : Addr} {sc sc' : SC} (I : Inv G As h) (D1 : Des G.Z G.a0 h a false sc) (D2 : Des G.Z G.a0 h b false sc') (far : ∀ e ∈ As, e.2.1 = true → a ≠ e.1 ∧ b ≠ e.1) : Inv G ((a, false, sc) :: (b, false, sc') :: As) h := by
  refine ⟨I.1, ?_, fun e he => ?_⟩
  · refine List.pairwise_cons.mpr ⟨fun p hp hw => ?_, List.pairwise_cons.mpr ⟨fun p hp hw => ?_, I.2.1⟩⟩
    · rcases List.mem_cons.mp hp with rfl | hp
      · rcases hw with hw | hw <;> cases hw
      · obtain ⟨e, he, rfl⟩ := List.mem_map.mp hp
        rcases hw with hw | hw
        · cases hw
        · exact (far e he hw).1
    · obtain ⟨e, he, rfl⟩ := List.mem_map.mp hp
      rcases hw with hw | hw
      · cases hw
      · exact (far e he hw).2
  · rcases List.mem_cons.mp he with rfl | he
    · exact ⟨(fun q => nomatch q), D1⟩
    · rcases List.mem_cons.mp he with rfl | he
      · exact ⟨(fun q => nomatch q), D2⟩
      · exact I.2.2 e he
/-- a frozen cell of the list is none that the walk writes -/
theorem Inv.farF {G : Gx} {As : List Ent} {h : Heap} {a : Addr} {sc : SC} (I : Inv G As h) (hm : (a, false, sc) ∈ As) : ∀ e ∈ As, e.2.1 = true → a ≠ e.1 := fun e he hw => by
  obtain ⟨i, hi, ei⟩ := List.getElem_of_mem hm
  obtain ⟨j, hj, ej⟩ := List.getElem_of_mem he
  obtain ⟨ea, ew, es⟩ := e
  simp only at hw
  subst hw
  rcases Nat.lt_trichotomy i j with q | q | q
  · exact I.ne (by rw [List.getElem?_eq_getElem hi, ei]) (by rw [List.getElem?_eq_getElem hj, ej]) q (Or.inr rfl)
  · subst q; rw [ei] at ej; cases ej
  · exact (I.ne (by rw [List.getElem?_eq_getElem hj, ej]) (by rw [List.getElem?_eq_getElem hi, ei]) q (Or.inl rfl)).symm
/-- 'ldc' of a String constant: whatever has been loaded before, from whatever entry -/
theorem W.ldcG {text : String} {vs : List Value} {n : Nat} (hnw : G.nw = false) (hd : decode code pc = .ok (.ldc idx, 2)) (w : (Cond.stringLink y.cls idx text).before G.a0 G.Z = true) (wS : ∀ a ∈ Bundle.stringAtoms, a.before G.a0 G.Z = true)
    (hh : Jvm.Lit.constHeld G.Z y.cls idx) (hcw : Jvm.Lit.compactW.before G.a0 G.Z = true) (hlit : LitG As Li text vs) (ht : (∀ c ∈ text.toList, c.toNat < 256) ∧ text.toList.map (fun c => Value.int (Jvm.Lit.byteI c.toNat.toUInt16)) = vs)
    (hn : 4 * text.toList.length ≤ n) (hbig : n ≤ 536870912) (hc : cells + 2 ≤ R.cells) (hs : slots + (n + 4) ≤ R.slots)
    (nx : ∀ a b, W G K y code ret R Q ((a, false, obj "java/lang/String" litF [.ref b, .int 0]) :: (b, false, arr .byte vs) :: As) ((y.cls, idx, text, a) :: Li) (cells + 2) (slots + (n + 4)) (pc + 2) Ls (.ref a :: st)) : W G K y code ret R Q As Li cells slots pc Ls st := by
  intro T vmA kA locs ok XA hSA hkA hN hI hLA hF
  -- the tables as they stand here are the base
  have hZA : G.Z.Warmed39 vmA := ok_Z ok hSA
  have X : Stand K.p G.l K.e R (K.s.setVm T.vm) K.m K.args K.below K.meth K.c T locs cells slots := XA.retabled XA.warmed.wide
  have hS : K.s.Since T.vm T.heap.size := hSA.trans (XA.warmed.since _) hkA
  have hL : LI G.Z T.vm Li := hLA.warm XA.warmed
  have hZ : G.Z.Warmed39 T.vm := State.Warmed39.trans (t := K.s.setVm vmA) hZA XA.warmed.wide
  have hal := hZ.alike
  have E0 := hI.old
  have wi : (Cond.instantiable "java/lang/String" 4).before G.a0 G.Z = true := wS _ (by simp [Bundle.stringAtoms, Bundle.sN])
  have wa : (Cond.arrayClass .byte).before G.a0 G.Z = true := wS _ (by simp [Bundle.stringAtoms])
  have hownT : T.vm.findClass y.cls = some K.m.cls := by rw [XA.warmed.alike.findClass]; exact ok_own ok hSA
  have hownZ : G.Z.vm.findClass y.cls = some K.m.cls := by rw [← hal.findClass]; exact hownT
  obtain ⟨k, cf, i, units, hk, hcf, hcp, hu, hnm, htext, hres⟩ := Cond.stringLink_spec hownZ w
  obtain ⟨k', hk', hke, hx2, ee, hx3⟩ := hZ.2.2.2 _ k hk
  have hcf' : k'.cf = some cf := by rw [hke]; exact hcf
  have hH : ConstHeldL G.Z y.cls idx := heldStart hh w ht.1 hcw wa wi
  have oldgood : ∀ a, SlOf G.Z a units → ∃ b, Des G.Z G.a0 T.heap a false (obj "java/lang/String" litF [.ref b, .int 0]) ∧ Des G.Z G.a0 T.heap b false (arr .byte vs) ∧ ∀ e ∈ As, e.2.1 = true → a ≠ e.1 ∧ b ≠ e.1 := fun a hso => by
    obtain ⟨q, cS, hqa, hSl, hkS, hB, hbyt⟩ := hso
    subst hqa
    obtain ⟨D1, D2⟩ := sl_des (G := G) (U := G.Z) (vs := vs) ⟨rfl, rfl, fun c k h => ⟨k, h, by first | rfl | exact ⟨rfl, rfl⟩⟩⟩ hSl hkS hB hbyt htext ht
    have g1 := D1.lt
    have g2 := D2.lt
    refine ⟨q.sd, D1.cell (fun c h => E0.2 _ c h), D2.cell (fun c h => E0.2 _ c h), fun e he hw => ?_⟩
    have g3 := (hI.2.2 e he).1 hw
    exact ⟨Nat.ne_of_lt (Nat.lt_of_lt_of_le g1 g3), Nat.ne_of_lt (Nat.lt_of_lt_of_le g2 g3)⟩
  have good : ∀ a, T.vm.interned.find? (fun p => p.1 == units) = some (units, a) → k.resolved[idx]? = some none → ∃ b, Des G.Z G.a0 T.heap a false (obj "java/lang/String" litF [.ref b, .int 0]) ∧ Des G.Z G.a0 T.heap b false (arr .byte vs) ∧ ∀ e ∈ As, e.2.1 = true → a ≠ e.1 ∧ b ≠ e.1 := fun a hf hr => by
    rcases hL.where_ htext hf with ⟨r, hr1, hr2, hr3⟩ | hZf
    · obtain ⟨b, hb1, hb2⟩ := hlit r hr1 hr2
      rw [hr3] at hb1
      exact ⟨b, (hI.2.2 _ hb1).2, (hI.2.2 _ hb2).2, fun e he hw => ⟨hI.farF hb1 e he hw, hI.farF hb2 e he hw⟩⟩
    · exact oldgood a (hH _ k cf i units a hownZ hk hcf hcp hu (Or.inr ⟨hr, hZf⟩))
  -- the list of constants, one longer, the table of texts being as it was
  have third : ∀ a, ∀ q ∈ (y.cls, idx, text, a) :: Li, ∀ (us : Array UInt16) (x : Addr), utf16ToString? us = some q.2.2.1 → T.vm.interned.find? (fun p => p.1 == us) = some (us, x) → (∃ r ∈ (y.cls, idx, text, a) :: Li, r.2.2.1 = q.2.2.1 ∧ r.2.2.2 = x) ∨ G.Z.vm.interned.find? (fun p => p.1 == us) = some (us, x) := fun a q hq us x hus hf =>
    (hL.where_ hus hf).imp (fun ⟨r, h1, h2⟩ => ⟨r, List.mem_cons_of_mem _ h1, h2⟩) id
  have resd : ∀ a, k'.resolved[idx]? = some (some (.string a)) → ∃ b, Des G.Z G.a0 T.heap a false (obj "java/lang/String" litF [.ref b, .int 0]) ∧ Des G.Z G.a0 T.heap b false (arr .byte vs) ∧ ∀ e ∈ As, e.2.1 = true → a ≠ e.1 ∧ b ≠ e.1 := fun a h0 => by
    rcases ee idx with e0 | ⟨hop, r, e1, hr | ⟨a3, t, si, us, rfl, -, q3, q4, q5⟩⟩
    · exact oldgood a (hH _ k cf i units a hownZ hk hcf hcp hu (Or.inl (e0 ▸ h0)))
    · exfalso
      cases r <;> simp [State.rightAt, hk, hcf, hnm] at hr
    · rw [hcf] at q3 q4
      have e3 : si = i := by
        have := q3.symm.trans hcp
        simpa using this
      subst e3
      have e4 : us = units := by simpa [ConstantPool.utf8?, hu] using q4.symm
      subst e4
      have e5 : a3 = a := by
        have := e1.symm.trans h0
        simpa using this
      subst e5
      exact good a3 q5 hop
  have isopen : (∃ a, k'.resolved[idx]? = some (some (.string a))) ∨ (k'.resolved[idx]? = some none ∧ k.resolved[idx]? = some none) := by
    rcases ee idx with e0 | ⟨hop, r, e1, hr | ⟨a3, t, si, us, rfl, -⟩⟩
    · rcases hres with h0 | ⟨a, h0⟩
      · exact Or.inr ⟨e0.trans h0, h0⟩
      · exact Or.inl ⟨a, e0.trans h0⟩
    · exfalso
      cases r <;> simp [State.rightAt, hk, hcf, hnm] at hr
    · exact Or.inl ⟨a3, e1⟩
  rcases isopen with ⟨a, h0⟩ | ⟨hopen, hopen0⟩
  · -- it was loaded before
    obtain ⟨b, D1, D2, far⟩ := resd a h0
    have hlit' : RoadKit.Lit (K.s.setVm T.vm) y.cls idx a := by
      show State.resolvedAt? (K.s.setVm T.vm) y.cls idx = _
      simp [State.resolvedAt?, State.setVm, hownT, hk', h0]
    obtain ⟨U, u, g1, g2⟩ := nx a b T T.vm T.heap.size locs ok (X.more (Nat.le_add_right _ _) (Nat.le_add_right _ _)) hS (Nat.le_refl _) (fun q => by rw [hnw] at q; cases q) (hI.two D1 D2 far) ⟨hL.1.step (Or.inl rfl), fun r hr => by
      rcases List.mem_cons.mp hr with rfl | hr
      · exact hlit'
      · exact hL.2.1 r hr, third a⟩ hF
    exact ⟨U, u, ldcAgain X ok.1 hZ hownT w hlit' (g := mkF K.m pc Ls.toArray st) rfl (hb ok.2.1 hd) _ g1, g2⟩
  have q2 : k'.cf.bind (namesOf? ·.constantPool idx) = some (.string text) := by rw [hcf']; exact hnm
  have q3 : k'.cf.bind (·.constantPool[idx]?) = some (.string i) := by rw [hcf']; exact hcp
  have q4 : k'.cf.bind (·.constantPool.utf8? i) = some units := by rw [hcf']; simp [ConstantPool.utf8?, hu]
  cases hf : T.vm.interned.find? (fun p => p.1 == units) with
  | some pr =>
    obtain ⟨u', a⟩ := pr
    have hu' : u' = units := by
      have := Array.find?_some hf
      simpa using this
    subst hu'
    obtain ⟨b, D1, D2, far⟩ := good a hf hopen0
    have hW : (K.s.setVm T.vm).Warmed39 (T.vm.noted K.m.cls idx (.string a)) := (State.Warmed39.refl (K.s.setVm T.vm)).notedString hk' (Or.inl hopen) q2 q3 q4 hf
    have X2 := (X.more (cells := cells) (slots := slots) (Nat.le_add_right cells 2) (Nat.le_add_right slots (n + 4))).retabled hW
    have hB : (K.s.setVm T.vm).Booked (T.vm.noted K.m.cls idx (.string a)) T.heap.size := State.Booked.step (T := T) (T₂ := T.setVm (T.vm.noted K.m.cls idx (.string a))) (X.warmed.no_new_pair _) X.same.2.1 ⟨Nat.le_refl _, Or.inl rfl⟩
    have hS2 : K.s.Since (T.vm.noted K.m.cls idx (.string a)) T.heap.size := hS.trans ⟨hW, hB⟩ (Nat.le_refl _)
    have hk2 : (T.vm.noted K.m.cls idx (.string a)).classes[K.m.cls]? = some _ := Vm.classes_note_self idx (.string a) hk'
    have hr2 := Class.resolved_note_self (k := k') (.string a) hopen
    have hlit' : RoadKit.Lit (K.s.setVm (T.vm.noted K.m.cls idx (.string a))) y.cls idx a := by
      have hf2 : (T.vm.noted K.m.cls idx (.string a)).findClass y.cls = some K.m.cls := by rw [hW.alike.findClass]; exact hownT
      show State.resolvedAt? (K.s.setVm _) y.cls idx = _
      simp [State.resolvedAt?, State.setVm, hf2, hk2, hr2]
    obtain ⟨U, u, g1, g2⟩ := nx a b (T.setVm (T.vm.noted K.m.cls idx (.string a))) (T.vm.noted K.m.cls idx (.string a)) T.heap.size locs ok X2 hS2 (Nat.le_refl _) (fun q => by rw [hnw] at q; cases q) (hI.two D1 D2 far) ⟨hL.1.step (Or.inl rfl), fun r hr => by
      rcases List.mem_cons.mp hr with rfl | hr
      · exact hlit'
      · exact Lit.stays (s := K.s) (hL.2.1 r hr) hW, third a⟩ hF
    refine ⟨U, u, ?_, g2⟩
    have hdg : decode K.c.code (mkF K.m pc Ls.toArray st).pc = .ok (.ldc idx, 2) := hb ok.2.1 hd
    have hexec := ok.1
    jvm_step X.here [hexec, hdg, ldc.wp_string_found (e := K.e) (s := T) (f := mkF K.m pc Ls.toArray st) X.here.top hk' hcf' hcp hu hopen hf]
    exact g1
  | none =>
    have Y := rebase X E0 (by omega) (by omega)
    have hHL : ConstHeldL ((rebS0 G K.s T.vm).setVm T.vm) y.cls idx := fun c2 k2 cf2 i2 us2 a2 r1 r2 r3 r4 r5 r6 => by
      exfalso
      cases (show T.vm.findClass y.cls = some c2 from r1).symm.trans hownT
      cases (show T.vm.classes[K.m.cls]? = some k2 from r2).symm.trans hk'
      cases r3.symm.trans hcf'
      cases r4.symm.trans hcp
      cases r5.symm.trans hu
      rcases r6 with r6 | ⟨-, r6⟩
      · rw [hopen] at r6; cases r6
      · rw [show ((rebS0 G K.s T.vm).setVm T.vm).vm.interned.find? (fun p => p.1 == units) = none from hf] at r6; cases r6
    obtain ⟨a, T', Y', hS', ⟨kk, hkk, hrr⟩, hb', h1', hint, ⟨units', htext', hin⟩, st'⟩ := Y.ldcColdF (fun b cl h => E0.2 b cl h) ok.1 (own := y.cls) (text := text) (index := idx) hownT
      (mvS (s := rebS0 G K.s T.vm) hZ w) (fun d hd => by
        have q := wS d hd
        simp only [Bundle.stringAtoms, List.mem_cons, List.not_mem_nil, or_false] at hd
        rcases hd with rfl | rfl | rfl | rfl | rfl | rfl | rfl
        · exact mv (s := rebS0 G K.s T.vm) hZ q
        · exact mv (s := rebS0 G K.s T.vm) hZ q
        · exact mvA (s := rebS0 G K.s T.vm) hZ q
        · exact mv (s := rebS0 G K.s T.vm) hZ q
        · exact mv (s := rebS0 G K.s T.vm) hZ q
        · exact mv (s := rebS0 G K.s T.vm) hZ q
        · exact mv (s := rebS0 G K.s T.vm) hZ q) hHL (fun units hu => Jvm.ClassFile.lat_of_text hu ht.1) (g := mkF K.m pc Ls.toArray st) rfl (hb ok.2.1 hd) hn hbig (by show _ + 2 ≤ _ + _; omega) (by show _ + _ ≤ _ + _; omega)
    have euu : units' = units := Array.toList_inj.mp (by rw [Jvm.ClassFile.units_of_text htext' ht.1, Jvm.ClassFile.units_of_text htext ht.1])
    subst euu
    have hal' : G.Z.vm.Alike T'.vm := (State.Warmed39.trans (t := rebS0 G K.s T.vm) hZ hS'.1).alike
    have E : Ext T.heap T'.heap := ext_of hb'
    have hW0 : (K.s.setVm T.vm).Warmed39 T'.vm := hS'.1
    have X1 := X.retabled hW0
    have hsz : T'.heap.size ≤ T.heap.size + 2 := by
      have q := Y'.heapSize
      have q' : T'.heap.size ≤ G.Z.heap.size + ((T.heap.size - G.Z.heap.size) + 2) := q
      have := E0.1
      omega
    have sm0 := own_sums E0
    have sm1 := own_sums E
    have sm2 := own_sums (h := G.Z.heap) (h' := T'.heap) ⟨Nat.le_trans E0.1 E.1, fun x c q => E.2 x c (E0.2 x c q)⟩
    have bk : T.slotsUsed = (T.heap.toList.map fun c => c.slots.size).sum := by
      have h := X.book
      simp only [State.slotsTrue, beq_iff_eq] at h
      rw [h]; exact own_foldA _
    have bk' : T'.slotsUsed = (T'.heap.toList.map fun c => c.slots.size).sum := by
      have h := Y'.book
      simp only [State.slotsTrue, beq_iff_eq] at h
      rw [h]; exact own_foldA _
    have hsame : (T.setVm T'.vm).sameButNew (T'.setVm T'.vm) [] 2 (n + 4) := by
      have q1 := Y'.same
      have q0 := X.same
      refine ⟨?_, E.1, hsz, ?_, ?_, fun a c h => ⟨c, E.2 a c h, rfl, rfl, fun _ _ => rfl⟩⟩
      · have e1 : T' = ({ (K.s.setVm T.vm).setFrames T'.frames with heap := T'.heap, slotsUsed := T'.slotsUsed } : State).setVm T'.vm := by
          have h := congrArg (fun s : State => s.setVm T'.vm) q1.1
          exact h
        have e0 : T = ({ (K.s.setVm T.vm).setFrames T.frames with heap := T.heap, slotsUsed := T.slotsUsed } : State).setVm T.vm := by
          have h := congrArg (fun s : State => s.setVm T.vm) q0.1
          exact h
        have e2 : (T.setVm T'.vm).setFrames T'.frames = ({ (K.s.setVm T.vm).setFrames T'.frames with heap := T.heap, slotsUsed := T.slotsUsed } : State).setVm T'.vm := by
          have e3 : (T.setVm T'.vm).setFrames T'.frames = ((({ (K.s.setVm T.vm).setFrames T.frames with heap := T.heap, slotsUsed := T.slotsUsed } : State).setVm T.vm).setVm T'.vm).setFrames T'.frames := by rw [← e0]
          rw [e3]
          show ({ ((K.s.setVm T.vm).setFrames T.frames).setFrames T'.frames with heap := T.heap, slotsUsed := T.slotsUsed, vm := T'.vm } : State) = _
          rw [State.setFrames_setFrames]
          rfl
        show T' = { (T.setVm T'.vm).setFrames T'.frames with heap := T'.heap, slotsUsed := T'.slotsUsed }
        rw [e2]
        exact e1
      · show T'.slotsUsed = T.slotsUsed + _
        rw [bk, bk']; exact sm1
      · have q : ((T'.heap.toList.drop G.Z.heap.size).map fun c => c.slots.size).sum ≤ ((T.heap.toList.drop G.Z.heap.size).map fun c => c.slots.size).sum + (n + 4) := q1.2.2.2.2.1
        show ((T'.heap.toList.drop T.heap.size).map fun c => c.slots.size).sum ≤ n + 4
        omega
    have X2 := X1.moved (T₂ := T') Y'.here Y'.tail (Y'.limits.trans X.limits.symm) (Y'.bytes.trans X.bytes.symm) (State.WarmedH.refl _) hsame
    rw [List.append_nil] at X2
    have hB : (K.s.setVm T.vm).Booked T'.vm T'.heap.size := State.Booked.step (X.warmed.no_new_pair _) X.same.2.1 h1'
    have hSn : K.s.Since T'.vm T'.heap.size := hS.trans ⟨hW0, hB⟩ E.1
    obtain ⟨q, cS, hqa, hSl, hkS, hB', hbyt, hpl⟩ := hin
    subst hqa
    obtain ⟨D1, D2⟩ := sl_des (G := G) (vs := vs) hal' hSl hkS hB' hbyt htext ht
    have hI' := hI.ext E
    have far : ∀ e ∈ As, e.2.1 = true → q.sa ≠ e.1 ∧ q.sd ≠ e.1 := fun e he hw => by
      have g1 := (hI.2.2 e he).1 hw
      have g2 := (hI.2.2 e he).2.lt
      rcases hpl with ⟨p1, p2⟩ | ⟨p1, p2⟩
      · exact ⟨Nat.ne_of_lt (Nat.lt_of_lt_of_le p1 g1), Nat.ne_of_lt (Nat.lt_of_lt_of_le p2 g1)⟩
      · exact ⟨(Nat.ne_of_lt (Nat.lt_of_lt_of_le g2 p1)).symm, (Nat.ne_of_lt (Nat.lt_of_lt_of_le g2 p2)).symm⟩
    -- the text is booked at that very place
    have hnew : T'.vm.interned.find? (fun p => p.1 == units') = some (units', q.sa) := by
      obtain ⟨k2, hk2, -, -, ee2, -⟩ := hW0.2.2.2 _ k' hk'
      cases hkk.symm.trans hk2
      rcases ee2 idx with e0 | ⟨hop, r, e1, hr | ⟨a3, t, si, us, rfl, -, z3, z4, z5⟩⟩
      · rw [hrr, hopen] at e0; cases e0
      · exfalso
        cases r <;> simp [State.rightAt, State.setVm, hk', hcf', hnm] at hr
      · rw [hcf'] at z3 z4
        have e3 : si = i := by
          have := z3.symm.trans hcp
          simpa using this
        subst e3
        have e4 : us = units' := by simpa [ConstantPool.utf8?, hu] using z4.symm
        subst e4
        have e5 : a3 = q.sa := by
          have := e1.symm.trans hrr
          simpa using this
        subst e5
        exact z5
    have hLi : LI G.Z T'.vm ((y.cls, idx, text, q.sa) :: Li) := by
      refine ⟨hL.1.step hint, fun r hr => ?_, fun r hr us x hus hfx => ?_⟩
      · rcases List.mem_cons.mp hr with rfl | hr
        · have hf : T'.vm.findClass y.cls = some K.m.cls := by rw [hW0.alike.findClass]; exact hownT
          show State.resolvedAt? (G.Z.setVm T'.vm) y.cls idx = _
          simp [State.resolvedAt?, State.setVm, hf, hkk, hrr]
        · exact Lit.stays (s := K.s) (hL.2.1 r hr) hW0
      · rcases hint with e | ⟨u0, a0, hu0, e⟩
        · rw [e] at hfx; exact third q.sa r hr us x hus hfx
        · cases hft : T.vm.interned.find? (fun p => p.1 == us) with
          | some pr =>
            have : pr = (us, x) := by
              rw [e, Array.find?_push, hft] at hfx; simpa using hfx
            subst this
            exact third q.sa r hr us x hus hft
          | none =>
            have e6 : u0 = us ∧ a0 = x := by
              rw [e, Array.find?_push, hft] at hfx
              by_cases hq : u0 == us
              · simp [hq] at hfx; exact ⟨by simpa using hq, hfx.2⟩
              · simp [hq] at hfx
            obtain ⟨rfl, rfl⟩ := e6
            have e7 : text = r.2.2.1 := Option.some.inj (hu0.symm.trans hus)
            have e8 : u0 = units' := Array.toList_inj.mp (by rw [Jvm.ClassFile.units_of_text hu0 ht.1, Jvm.ClassFile.units_of_text htext ht.1])
            subst e8
            have e9 : q.sa = a0 := by
              have := hnew.symm.trans hfx
              simpa using this
            exact Or.inl ⟨_, List.mem_cons_self .., e7, e9⟩
    obtain ⟨U, u, g1, g2⟩ := nx q.sa q.sd T' T'.vm T'.heap.size locs ok X2 hSn (Nat.le_refl _) (fun q => by rw [hnw] at q; cases q) (hI'.two D1 D2 far) hLi hF
    exact ⟨U, u, st' _ g1, g2⟩
theorem W.ldcT {text : String} {vs : List Value} {n : Nat} (hnw : G.nw = false) (hd : decode code pc = .ok (.ldc idx, 2)) (w : (Cond.stringLink y.cls idx text).before G.a0 G.Z = true) (wS : ∀ a ∈ Bundle.stringAtoms, a.before G.a0 G.Z = true)
    (hh : Jvm.Lit.constHeld G.Z y.cls idx) (hcw : Jvm.Lit.compactW.before G.a0 G.Z = true) (hnot : text ∉ Li.map fun q => q.2.2.1) (ht : (∀ c ∈ text.toList, c.toNat < 256) ∧ text.toList.map (fun c => Value.int (Jvm.Lit.byteI c.toNat.toUInt16)) = vs)
    (hn : 4 * text.toList.length ≤ n) (hbig : n ≤ 536870912) (hc : cells + 2 ≤ R.cells) (hs : slots + (n + 4) ≤ R.slots)
    (nx : ∀ a b, W G K y code ret R Q ((a, false, obj "java/lang/String" litF [.ref b, .int 0]) :: (b, false, arr .byte vs) :: As) ((y.cls, idx, text, a) :: Li) (cells + 2) (slots + (n + 4)) (pc + 2) Ls (.ref a :: st)) : W G K y code ret R Q As Li cells slots pc Ls st :=
  W.ldcG hnw hd w wS hh hcw (fun q hq e => absurd (List.mem_map.mpr ⟨q, hq, e⟩) hnot) ht hn hbig hc hs nx
end Laws
end Jvm.Own
namespace Jvm.Own
open Sem ClassFile Op Lib Bundle Jvm.Stand Jvm.Free Jvm.LawKit Jvm.RoadKit
/-! ### what is known of a list that is not written out -/
abbrev STR : String := "java/lang/String"
section Strs
variable {G : Gx} {As As' : List Ent} {a b x : Addr} {w : Bool} {C D O n d : String} {v : Value} {fs fs' : List Fd} {vs vs' : List Value} {t t' : FieldType} {sc sc' : SC} {e : Ent} {cod : Int32} {h : Heap}
def Sub (As As' : List Ent) : Prop := ∀ e ∈ As, e ∈ As'
theorem Sub.refl (As : List Ent) : Sub As As := fun _ h => h
theorem Sub.cons (q : Sub As As') : Sub As (e :: As') := fun x hx => List.mem_cons_of_mem _ (q x hx)
theorem Sub.trans {As'' : List Ent} (q : Sub As As') (r : Sub As' As'') : Sub As As'' := fun x hx => r x (q x hx)
theorem Sub.trans' {As'' : List Ent} (r : Sub As' As'') (q : Sub As As') : Sub As As'' := fun x hx => r x (q x hx)
theorem Upd.mid {pre post : List Ent} : Upd (pre ++ (a, true, sc) :: post) a sc sc' (pre ++ (a, true, sc') :: post) := ⟨pre, post, rfl, rfl⟩
theorem Upd.new (u : Upd As a sc sc' As') : (a, true, sc') ∈ As' := by obtain ⟨pre, post, rfl, rfl⟩ := u; simp
theorem Upd.other (u : Upd As a sc sc' As') (he : e ∈ As) (hne : e ≠ (a, true, sc)) : e ∈ As' := by
  obtain ⟨pre, post, rfl, rfl⟩ := u
  rcases List.mem_append.mp he with he | he
  · exact List.mem_append_left _ he
  · rcases List.mem_cons.mp he with rfl | he
    · exact absurd rfl hne
    · exact List.mem_append_right _ (List.mem_cons_of_mem _ he)
theorem Upd.of_mem (hm : (a, true, sc) ∈ As) (sc' : SC) : ∃ As', Upd As a sc sc' As' := by
  obtain ⟨pre, post, rfl⟩ := List.append_of_mem hm; exact ⟨_, pre, post, rfl, rfl⟩
def FIn (G : Gx) (As : List Ent) (a : Addr) (C O n d : String) (v : Value) : Prop := (∃ w fs vs, (a, w, obj C fs vs) ∈ As ∧ FAt fs vs O n d v) ∨ Fld G.Z G.Z.heap a O n d v
theorem FIn.mem (hm : (a, w, obj C fs vs) ∈ As) (q : FAt fs vs O n d v) : FIn G As a C O n d v := Or.inl ⟨w, fs, vs, hm, q⟩
theorem FIn.old (F : Fld G.Z G.Z.heap a O n d v) : FIn G As a C O n d v := Or.inr F
theorem FIn.fld (q : FIn G As a C O n d v) (I : Inv G As h) : Fld G.Z h a O n d v := by
  rcases q with ⟨w, fs, vs, hm, q⟩ | F
  · exact I.fld hm q
  · exact F.ext I.old
theorem FIn.sub (q : FIn G As a C O n d v) (s : Sub As As') : FIn G As' a C O n d v := q.imp (fun ⟨w, fs, vs, hm, r⟩ => ⟨w, fs, vs, s _ hm, r⟩) id
theorem Is.sub (q : Is G As a C) (s : Sub As As') : Is G As' a C := q.imp (fun ⟨w, fs, vs, hm⟩ => ⟨w, fs, vs, s _ hm⟩) id
theorem AVin.sub (q : AVin G As a t vs) (s : Sub As As') : AVin G As' a t vs := q.imp (fun ⟨w, hm⟩ => ⟨w, s _ hm⟩) id
theorem Is.upd (q : Is G As x C) (u : Upd As a (obj D fs vs) (obj D fs' vs') As') : Is G As' x C := by
  rcases q with ⟨w, f, v, hm⟩ | E
  · by_cases hne : ((x, w, obj C f v) : Ent) = (a, true, obj D fs vs)
    · have h1 := congrArg Prod.fst hne
      have h2 := congrArg (fun e : Ent => e.2.2) hne
      simp only [obj, Sum.inl.injEq, Prod.mk.injEq] at h1 h2
      obtain ⟨rfl, -, -⟩ := h2
      subst h1
      exact Or.inl ⟨_, _, _, u.new⟩
    · exact Or.inl ⟨w, f, v, u.other hm hne⟩
  · exact Or.inr E
theorem Is.updA (q : Is G As x C) (u : Upd As a (arr t vs) sc' As') : Is G As' x C := by
  rcases q with ⟨w, f, v, hm⟩ | E
  · exact Or.inl ⟨w, f, v, u.other hm (fun q => by simp at q)⟩
  · exact Or.inr E
theorem FIn.upd (q : FIn G As x C O n d v) (u : Upd As a (obj D fs vs) sc' As') (hD : C ≠ D) : FIn G As' x C O n d v := by
  rcases q with ⟨w, f, v, hm, r⟩ | F
  · exact Or.inl ⟨w, f, v, u.other hm (fun q => hD (by simp at q; exact q.2.2.1)), r⟩
  · exact Or.inr F
theorem FIn.updA (q : FIn G As x C O n d v) (u : Upd As a (arr t vs) sc' As') : FIn G As' x C O n d v := by
  rcases q with ⟨w, f, v, hm, r⟩ | F
  · exact Or.inl ⟨w, f, v, u.other hm (fun q => by simp at q), r⟩
  · exact Or.inr F
theorem AVin.upd (q : AVin G As x t vs) (u : Upd As a (obj D fs vs') sc' As') : AVin G As' x t vs := by
  rcases q with ⟨w, hm⟩ | A
  · exact Or.inl ⟨w, u.other hm (fun q => by simp at q)⟩
  · exact Or.inr A
theorem AVin.updT (q : AVin G As x t vs) (u : Upd As a (arr t' vs') sc' As') (ht : t ≠ t') : AVin G As' x t vs := by
  rcases q with ⟨w, hm⟩ | A
  · exact Or.inl ⟨w, u.other hm (fun q => ht (by simp at q; exact q.2.2.1))⟩
  · exact Or.inr A
/-- a String: its bytes, its coder -/
def StrIn (G : Gx) (As : List Ent) (a : Addr) (bs : List Value) (cod : Int32) : Prop :=
  ∃ b, Is G As a STR ∧ FIn G As a STR STR "value" "[B" (.ref b) ∧ FIn G As a STR STR "coder" "B" (.int cod) ∧ AVin G As b .byte bs
theorem StrIn.sub (q : StrIn G As a vs cod) (s : Sub As As') : StrIn G As' a vs cod := by
  obtain ⟨b, h1, h2, h3, h4⟩ := q; exact ⟨b, h1.sub s, h2.sub s, h3.sub s, h4.sub s⟩
theorem StrIn.upd {us : List Value} (q : StrIn G As x vs cod) (u : Upd As a (obj D fs vs') (obj D fs' us) As') (hD : STR ≠ D) : StrIn G As' x vs cod := by
  obtain ⟨b, h1, h2, h3, h4⟩ := q; exact ⟨b, h1.upd u, h2.upd u hD, h3.upd u hD, h4.upd u⟩
theorem StrIn.is (q : StrIn G As a vs cod) : Is G As a STR := by obtain ⟨b, h1, -⟩ := q; exact h1
/-- a String constant: not loaded yet, or here -/
def LitOk (As : List Ent) (Li : List LitE) (own : String) (idx : Nat) (text : String) (vs : List Value) : Prop :=
  (text ∉ Li.map fun q => q.2.2.1) ∨ ∃ a b, (own, idx, text, a) ∈ Li ∧ (a, false, obj STR litF [.ref b, .int 0]) ∈ As ∧ (b, false, arr .byte vs) ∈ As
theorem LitOk.sub {Li : List LitE} {own text : String} {idx : Nat} (q : LitOk As Li own idx text vs) (s : Sub As As') : LitOk As' Li own idx text vs :=
  q.imp id fun ⟨a, b, h1, h2, h3⟩ => ⟨a, b, h1, s _ h2, s _ h3⟩
theorem LitOk.upd {Li : List LitE} {own text : String} {idx : Nat} (q : LitOk As Li own idx text vs) (u : Upd As a sc sc' As') : LitOk As' Li own idx text vs :=
  q.imp id fun ⟨a, b, h1, h2, h3⟩ => ⟨a, b, h1, u.other h2 (fun q => by simp at q), u.other h3 (fun q => by simp at q)⟩
theorem LitOk.str {a b : Addr} (h2 : (a, false, obj STR litF [.ref b, .int 0]) ∈ As) (h3 : (b, false, arr .byte vs) ∈ As) : StrIn G As a vs 0 :=
  ⟨b, Is.mem h2, FIn.mem h2 FAt.head, FIn.mem h2 (FAt.tail FAt.head), AVin.mem h3⟩
end Strs
section Laws
variable {G : Gx} {K : Kx} {y : MethodName} {code : ByteArray} {ret : Option FieldType} {R : Room} {Q : Qx} {As As' : List Ent} {Li Li' : List LitE} {cells slots pc pc' : Nat} {Ls Ls' : List Slot} {st st' : List Value} {idx : Nat} {a : Addr} {C O n d R0 host : String} {v : Value}
theorem W.getI (wl : (Cond.fieldLink y.cls idx R0 n d).before G.a0 G.Z = true ∨ (Cond.fieldLinkNest y.cls idx R0 n d host).before G.a0 G.Z = true) (via : Via G.Z R0 O n d) (hd : decode code pc = .ok (.getfield idx, 3))
    (hf : FIn G As a C O n d v) (nx : W G K y code ret R Q As Li cells slots (pc + 3) Ls (v :: st)) : W G K y code ret R Q As Li cells slots pc Ls (.ref a :: st) := by
  intro T vm0 k0 locs ok X hS hk hN hI hL hF
  obtain ⟨T', X', e', st'⟩ := Jvm.RoadKit.getF X ok.1 (ok_Z ok hS) (ok_own ok hS) wl via rfl (hf.fld hI) (g := mkF K.m pc Ls.toArray (.ref a :: st)) rfl rfl (hb ok.2.1 hd)
  obtain ⟨U, u, h1, h2⟩ := nx T' vm0 k0 locs ok X' hS (by rw [e']; exact hk) hN (by rw [e']; exact hI) hL hF
  exact ⟨U, u, st' _ h1, h2⟩
/-- 'ldc' of a String constant, loaded already or not -/
theorem W.ldcL {text : String} {vs : List Value} {n : Nat} (hl : LitOk As Li y.cls idx text vs) (hnw : G.nw = false) (hd : decode code pc = .ok (.ldc idx, 2)) (w : (Cond.stringLink y.cls idx text).before G.a0 G.Z = true) (wS : ∀ a ∈ Bundle.stringAtoms, a.before G.a0 G.Z = true)
    (hh : Jvm.Lit.constHeld G.Z y.cls idx) (hcw : Jvm.Lit.compactW.before G.a0 G.Z = true) (ht : (∀ c ∈ text.toList, c.toNat < 256) ∧ text.toList.map (fun c => Value.int (Jvm.Lit.byteI c.toNat.toUInt16)) = vs)
    (hn : 4 * text.toList.length ≤ n) (hbig : n ≤ 536870912) (hc : cells + 2 ≤ R.cells) (hs : slots + (n + 4) ≤ R.slots)
    (nx : ∀ a b As' Li', (a, false, obj STR litF [.ref b, .int 0]) ∈ As' → (b, false, arr .byte vs) ∈ As' → (y.cls, idx, text, a) ∈ Li' → ((As' = As ∧ Li' = Li) ∨ (As' = (a, false, obj STR litF [.ref b, .int 0]) :: (b, false, arr .byte vs) :: As ∧ Li' = (y.cls, idx, text, a) :: Li)) →
      W G K y code ret R Q As' Li' (cells + 2) (slots + (n + 4)) (pc + 2) Ls (.ref a :: st)) : W G K y code ret R Q As Li cells slots pc Ls st := by
  rcases hl with hl | ⟨a, b, h1, h2, h3⟩
  · exact W.ldcT hnw hd w wS hh hcw hl ht hn hbig hc hs fun a b => nx a b _ _ (List.Mem.head _) (List.Mem.tail _ (List.Mem.head _)) (List.Mem.head _) (Or.inr ⟨rfl, rfl⟩)
  · exact W.ldcA hd w h1 (W.mono (nx a b As Li h2 h3 h1 (Or.inl ⟨rfl, rfl⟩)) (Nat.le_add_right _ _) (Nat.le_add_right _ _))
end Laws
/-! ### small numbers as ints -/
theorem n_toInt {a : Nat} (h : a < 2147483648) : a.toInt32.toInt = a := len_toInt (by simpa using h)
theorem n_lt {a b : Nat} (h : a < b) (hb : b < 2147483648) : a.toInt32 < b.toInt32 := by
  rw [Int32.lt_iff_toInt_lt, n_toInt hb, n_toInt (by omega)]; omega
theorem n_nlt {a b : Nat} (h : b ≤ a) (ha : a < 2147483648) : ¬ a.toInt32 < b.toInt32 := by
  rw [Int32.lt_iff_toInt_lt, n_toInt ha, n_toInt (by omega)]; omega
theorem n_nn {a : Nat} (h : a < 2147483648) : ¬ a.toInt32 < 0 := by
  rw [Int32.lt_iff_toInt_lt, n_toInt h]; show ¬ ((a : Int) < 0); omega
theorem n_clamp {a : Nat} (h : a < 2147483648) : a.toInt32.toNatClampNeg = a := by
  simp only [Int32.toNatClampNeg, n_toInt h]; omega
theorem n_succ (a : Nat) : a.toInt32 + 1 = (a + 1).toInt32 := by
  show Int32.ofNat a + 1 = Int32.ofNat (a + 1)
  rw [Int32.ofNat_add]; rfl
theorem store_one {Ls : List Slot} {k : Nat} {o : Slot} {v : Value} (hold : Ls[k]? = some o) (ho : One o) (hv : v.category = 1) : storeLocals Ls.toArray k v = some (Ls.set k (.val v)).toArray := by
  rw [Jvm.Free.XS.store1 (o := o) (by simpa using hold) ho hv]; simp
theorem byt_fits (z : Int32) : fits .byte (.int z.toInt8.toInt32) = true := fits_nar_byte z
end Jvm.Own
namespace Jvm.Own
open Sem ClassFile Op Lib Bundle Jvm.Stand Jvm.Free Jvm.LawKit Jvm.RoadKit
abbrev byt (z : Int32) : Value := .int z.toInt8.toInt32
theorem n_ne0 {a : Nat} (h0 : 0 < a) (h : a < 2147483648) : ¬ a.toInt32 = 0 := fun e => by
  have := congrArg Int32.toInt e
  rw [n_toInt h] at this
  have h0' : (0 : Int32).toInt = 0 := rfl
  omega
theorem own_fill (cs : List Int32) {k m : Nat} (hk : k < cs.length) (hm : k + (m + 1) = cs.length) :
    ((cs.take k).map byt ++ List.replicate (m + 1) (Value.int 0)).set k (byt cs[k]) = (cs.take (k + 1)).map byt ++ List.replicate m (Value.int 0) := by
  have hl : ((cs.take k).map byt).length = k := by simp; omega
  rw [List.set_append_right _ _ (by omega), hl, Nat.sub_self, List.replicate_succ, List.set_cons_zero, List.take_succ_eq_append_getElem hk, List.map_append, List.append_assoc]
  rfl
theorem own_done (cs : List Int32) : (cs.take cs.length).map byt ++ List.replicate 0 (Value.int 0) = cs.map byt := by simp
/-- the String constants loaded since: only such texts -/
def LX (Ts : List String) (Li L : List LitE) : Prop := ∃ M, L = M ++ Li ∧ ∀ q ∈ M, q.2.2.1 ∈ Ts
theorem LX.refl (Ts : List String) (Li : List LitE) : LX Ts Li Li := ⟨[], rfl, fun _ h => nomatch h⟩
theorem LX.one {Ts : List String} {Li : List LitE} {q : LitE} (h : q.2.2.1 ∈ Ts) : LX Ts Li (q :: Li) := ⟨[q], rfl, fun r hr => by cases List.mem_singleton.mp hr; exact h⟩
theorem LX.trans {Ts : List String} {Li L L' : List LitE} (a : LX Ts Li L) (b : LX Ts L L') : LX Ts Li L' := by
  obtain ⟨M, rfl, h⟩ := a; obtain ⟨N, rfl, g⟩ := b
  exact ⟨N ++ M, by simp, fun q hq => (List.mem_append.mp hq).elim (g q) (h q)⟩
theorem LX.mono {Ts Ts' : List String} {Li L : List LitE} (a : LX Ts Li L) (h : ∀ t ∈ Ts, t ∈ Ts') : LX Ts' Li L := by
  obtain ⟨M, rfl, g⟩ := a; exact ⟨M, rfl, fun q hq => h _ (g q hq)⟩
theorem LX.mem {Ts : List String} {Li L : List LitE} (a : LX Ts Li L) {q : LitE} (h : q ∈ Li) : q ∈ L := by obtain ⟨M, rfl, -⟩ := a; exact List.mem_append_right _ h
theorem LX.lit {Ts : List String} {Li L : List LitE} {As As' : List Ent} {own text : String} {idx : Nat} {vs : List Value} (a : LX Ts Li L) (s : Sub As As') (q : LitOk As Li own idx text vs) (ht : text ∉ Ts) : LitOk As' L own idx text vs := by
  rcases q with q | ⟨x, b, h1, h2, h3⟩
  · refine Or.inl fun h => ?_
    obtain ⟨M, rfl, g⟩ := a
    rw [List.map_append] at h
    rcases List.mem_append.mp h with h | h
    · obtain ⟨r, hr, e⟩ := List.mem_map.mp h
      exact ht (e ▸ g r hr)
    · exact q h
  · exact Or.inr ⟨x, b, a.mem h1, s _ h2, s _ h3⟩
/-- COMPACT_STRINGS is on -/
def CSt (G : Gx) : Prop := ∃ z : Int32, Sta G.Z G.Z.heap STR "COMPACT_STRINGS" "Z" (.int z) ∧ ¬ z = 0
/-- a String is made of chars: what the maker leaves -/
def NewS (G : Gx) (As : List Ent) (Li : List LitE) (o : Addr) (bs : List Value) (A : List Ent) (L : List LitE) : Prop :=
  StrIn G A o bs 0 ∧ Sub As A ∧ LitOk A L STR 7 "" [] ∧ LX [""] Li L
end Jvm.Own
namespace Jvm.Own
open Sem ClassFile Op Lib Bundle Jvm.Stand Jvm.Free Jvm.LawKit Jvm.RoadKit
theorem ref_nar {u : Value} {C : String} (h : u.isRef = true) : narrow (.object C) u = u := by rcases ref_cases h with rfl | ⟨_, rfl⟩ <;> rfl
theorem ref_fit {u : Value} {C : String} (h : u.isRef = true) : fits (.object C) u = true := by rcases ref_cases h with rfl | ⟨_, rfl⟩ <;> rfl
theorem ref_cat {u : Value} (h : u.isRef = true) : u.category = 1 := by rcases ref_cases h with rfl | ⟨_, rfl⟩ <;> rfl
theorem Is.cons {G : Gx} {As : List Ent} {a : Addr} {C : String} {e : Ent} (q : Is G As a C) : Is G (e :: As) a C := q.sub (Sub.cons (Sub.refl _))
end Jvm.Own
namespace Jvm.Own
open Sem ClassFile Op Lib Bundle Jvm.Stand Jvm.Free Jvm.LawKit Jvm.RoadKit
/-- 1 where the two lists are one, else 0 -/
def eqI (xs zs : List Int32) : Int32 := if xs = zs then 1 else 0
theorem eqI_len {xs zs : List Int32} (h : xs.length ≠ zs.length) : eqI xs zs = 0 := if_neg fun e => h (congrArg List.length e)
theorem eqI_at {xs zs : List Int32} {k : Nat} (h1 : k < xs.length) (h2 : k < zs.length) (h : xs[k] ≠ zs[k]) : eqI xs zs = 0 := if_neg fun e => h (by subst e; rfl)
theorem eqI_all {xs zs : List Int32} (hl : xs.length = zs.length) (h : ∀ k (h1 : k < xs.length) (h2 : k < zs.length), xs[k] = zs[k]) : eqI xs zs = 1 := if_pos (List.ext_getElem hl h)
theorem eqI_self (xs : List Int32) : eqI xs xs = 1 := if_pos rfl
theorem n_inj {a b : Nat} (ha : a < 2147483648) (hb : b < 2147483648) (h : a.toInt32 = b.toInt32) : a = b := by
  have := congrArg Int32.toInt h
  rw [n_toInt ha, n_toInt hb] at this
  omega
theorem eqI_nar (xs zs : List Int32) : narrow .boolean (.int (eqI xs zs)) = .int (eqI xs zs) := by unfold eqI; split <;> rfl
end Jvm.Own
namespace Jvm.Own
open Sem ClassFile Op Lib Bundle Jvm.Stand Jvm.Free Jvm.LawKit Jvm.RoadKit
theorem Fld.uniq {Z : State} {h : Heap} {a : Addr} {C n d : String} {v u : Value} (F : Fld Z h a C n d v) (H : Fld Z h a C n d u) : v = u := by
  by_cases q : v = u
  · exact q
  · exact absurd rfl (RoadKit.Fld.ne F H q)
theorem AV.uniq {Z : State} {h : Heap} {a : Addr} {w w' : Bool} {t t' : FieldType} {vs us : List Value} (A : AV Z h a w t vs) (B : AV Z h a w' t' us) : vs = us := by
  obtain ⟨c, A1, e1, -⟩ := A
  obtain ⟨c', B1, e2, -⟩ := B
  cases A1.1.symm.trans B1.1
  exact e1.symm.trans e2
theorem StrIn.uniq {G : Gx} {As : List Ent} {a : Addr} {vs us : List Value} {c c' : Int32} {h : Heap} (I : Inv G As h) (q : StrIn G As a vs c) (r : StrIn G As a us c') : vs = us := by
  obtain ⟨b, -, q2, -, q4⟩ := q
  obtain ⟨b', -, r2, -, r4⟩ := r
  obtain rfl := Value.ref.inj (Fld.uniq (q2.fld I) (r2.fld I))
  exact AV.uniq (q4.get I) (r4.get I)
theorem map_int_inj {xs zs : List Int32} (h : xs.map Value.int = zs.map Value.int) : xs = zs := by
  have := congrArg (List.map fun v => match v with | Value.int z => z | _ => 0) h
  simpa [List.map_map, Function.comp_def] using this
end Jvm.Own
namespace Jvm.Own
open Sem ClassFile Op Lib Bundle Jvm.Stand Jvm.Free Jvm.LawKit Jvm.RoadKit
/-- a class right below Object is no K -/
theorem not_sub {Z : State} {a0 : Array Value} {C O K : String} {n : Nat} (wC : (Cond.superclass C O).before a0 Z = true) (wO : (Cond.noSuperclass O).before a0 Z = true) (wK : (Cond.instantiable K n).before a0 Z = true) (hn : C ≠ K) (hO : O ≠ K) :
    ∃ c t, Z.vm.findClass C = some c ∧ Z.vm.findClass K = some t ∧ Z.vm.assignable c t = false := by
  obtain ⟨c, h0⟩ := found_sup wC
  obtain ⟨p, k, kp, h1, h2, h3, h4, h5, -, h7⟩ := Cond.superclass_spec h0 wC
  obtain ⟨o, ko, g1, g2, g3, -⟩ := Cond.noSuperclass_spec wO
  cases h1.symm.trans g1
  cases h3.symm.trans g2
  obtain ⟨t, kt, t1, t2, t3, t4, -⟩ := Cond.instantiable_spec wK
  have ne := ids_ne h0 t1 hn
  have ne' := ids_ne h1 t1 hO
  have ti : kt.isInterface = false := by simp at t4; exact t4.1
  have sub : ∀ fuel, Z.vm.isSubclassAux fuel c t = false := fun fuel => by
    cases fuel with
    | zero => rfl
    | succ f => cases f with
      | zero => simp [Vm.isSubclassAux, ne, h2, h4]
      | succ f => simp [Vm.isSubclassAux, ne, ne', h2, h3, h4, g3]
  refine ⟨c, t, h0, t1, ?_⟩
  show Z.vm.assignableAux (255 + 1) c t = false
  simp [Vm.assignableAux, ne, h2, t2, h5, t3, ti, Vm.isSubclass, sub]
end Jvm.Own
namespace Jvm.Own
open Sem ClassFile Op Lib Bundle Jvm.Stand Jvm.Free Jvm.LawKit Jvm.RoadKit
theorem shr0 (n : Int32) : n >>> (0 : Int32) = n := by
  apply Int32.toInt_inj.mp
  simp
end Jvm.Own
namespace Jvm.Own
open Sem ClassFile Op Lib Bundle Jvm.Stand Jvm.Free Jvm.LawKit Jvm.RoadKit
theorem n_add (a b : Nat) : a.toInt32 + b.toInt32 = (a + b).toInt32 := by
  show Int32.ofNat a + Int32.ofNat b = Int32.ofNat (a + b)
  rw [Int32.ofNat_add]
theorem n_sub {a b : Nat} (h : b ≤ a) : a.toInt32 - b.toInt32 = (a - b).toInt32 := by
  have e : (a - b).toInt32 + b.toInt32 = a.toInt32 := by rw [n_add]; congr 1; omega
  rw [← e, Int32.add_sub_cancel]
end Jvm.Own
namespace Jvm.Own
open Sem ClassFile Op Lib Bundle Jvm.Stand Jvm.Free Jvm.LawKit Jvm.RoadKit
theorem args_ls {args : List Value} {Ls : List Slot} {n : Nat} (h : Sym.laidSlots args ++ List.replicate (n - (Sym.laidSlots args).length) .unset = Ls) : argsToLocals args.toArray n = Ls.toArray := by
  apply Array.toList_inj.mp
  rw [Sym.argsToLocals_toList]
  exact h
end Jvm.Own
namespace Jvm.Own
open Sem ClassFile Op Lib Bundle Jvm.Stand Jvm.Free Jvm.LawKit Jvm.RoadKit
/-! ### a cell that the walk won't write again -/
def Frz (As : List Ent) (a : Addr) (sc : SC) (As' : List Ent) : Prop := ∃ pre post, As = pre ++ (a, true, sc) :: post ∧ As' = pre ++ (a, false, sc) :: post
section Frzs
variable {G : Gx} {As As' As'' : List Ent} {a b x : Addr} {w : Bool} {sc sc' : SC} {e : Ent} {h : Heap} {C O n d : String} {fs : List Fd} {vs us : List Value} {t : FieldType}
theorem Frz.head : Frz ((a, true, sc) :: As) a sc ((a, false, sc) :: As) := ⟨[], As, rfl, rfl⟩
theorem Frz.tail (u : Frz As a sc As') : Frz (e :: As) a sc (e :: As') := by obtain ⟨pre, post, rfl, rfl⟩ := u; exact ⟨e :: pre, post, rfl, rfl⟩
theorem Frz.of_mem (hm : (a, true, sc) ∈ As) : ∃ As', Frz As a sc As' := by obtain ⟨pre, post, rfl⟩ := List.append_of_mem hm; exact ⟨_, pre, post, rfl, rfl⟩
theorem Frz.new (u : Frz As a sc As') : (a, false, sc) ∈ As' := by obtain ⟨pre, post, rfl, rfl⟩ := u; simp
theorem Frz.other (u : Frz As a sc As') (he : e ∈ As) (hne : e ≠ (a, true, sc)) : e ∈ As' := by
  obtain ⟨pre, post, rfl, rfl⟩ := u
  rcases List.mem_append.mp he with he | he
  · exact List.mem_append_left _ he
  · rcases List.mem_cons.mp he with rfl | he
    · exact absurd rfl hne
    · exact List.mem_append_right _ (List.mem_cons_of_mem _ he)
theorem Des.frz {Z : State} {a0 : Array Value} (D : Des Z a0 h a true sc) : Des Z a0 h a false sc := by
  rcases sc with ⟨C, fs, vs⟩ | ⟨t, vs⟩
  · exact ⟨D.1, D.2.1, D.2.2.1, fun q => nomatch q⟩
  · obtain ⟨c, A, r1, r2, r3, -⟩ := D
    exact ⟨c, A, r1, r2, r3, fun q => nomatch q⟩
theorem Inv.frz (I : Inv G As h) (u : Frz As a sc As') : Inv G As' h := by
  obtain ⟨pre, post, rfl, rfl⟩ := u
  refine ⟨I.1, ?_, fun e he => ?_⟩
  · have sp := I.2.1
    simp only [Sep, List.map_append, List.map_cons, List.pairwise_append, List.pairwise_cons] at sp ⊢
    refine ⟨sp.1, ⟨fun p hp q => sp.2.1.1 p hp (by simp), sp.2.1.2⟩, fun p hp q hq r => ?_⟩
    rcases List.mem_cons.mp hq with rfl | hq
    · exact sp.2.2 p hp (a, true) (List.mem_cons_self ..) (by simp)
    · exact sp.2.2 p hp q (List.mem_cons_of_mem _ hq) r
  · rcases List.mem_append.mp he with he | he
    · exact I.2.2 e (List.mem_append_left _ he)
    · rcases List.mem_cons.mp he with rfl | he
      · exact ⟨(fun q => nomatch q), (I.2.2 (a, true, sc) (List.mem_append_right _ (List.mem_cons_self ..))).2.frz⟩
      · exact I.2.2 e (List.mem_append_right _ (List.mem_cons_of_mem _ he))
/-- a String that won't be written again: its signs -/
def StrF (As : List Ent) (a : Addr) (bs : List Value) : Prop :=
  ∃ b fs vs, (a, false, obj STR fs vs) ∈ As ∧ FAt fs vs STR "value" "[B" (.ref b) ∧ FAt fs vs STR "coder" "B" (.int 0) ∧ (b, false, arr .byte bs) ∈ As
theorem StrF.str (q : StrF As a vs) : StrIn G As a vs 0 := by
  obtain ⟨b, fs, us, h1, h2, h3, h4⟩ := q; exact ⟨b, Is.mem h1, FIn.mem h1 h2, FIn.mem h1 h3, AVin.mem h4⟩
theorem StrF.is (q : StrF As a vs) : Is G As a STR := by obtain ⟨b, fs, us, h1, h2, h3, h4⟩ := q; exact Is.mem h1
theorem StrF.sub (q : StrF As a vs) (s : Sub As As') : StrF As' a vs := by
  obtain ⟨b, fs, us, h1, h2, h3, h4⟩ := q; exact ⟨b, fs, us, s _ h1, h2, h3, s _ h4⟩
theorem StrF.upd (q : StrF As a vs) (u : Upd As x sc sc' As') : StrF As' a vs := by
  obtain ⟨b, fs, us, h1, h2, h3, h4⟩ := q; exact ⟨b, fs, us, u.other h1 (fun r => by simp at r), h2, h3, u.other h4 (fun r => by simp at r)⟩
theorem StrF.frz (q : StrF As a vs) (u : Frz As x sc As') : StrF As' a vs := by
  obtain ⟨b, fs, us, h1, h2, h3, h4⟩ := q; exact ⟨b, fs, us, u.other h1 (fun r => by simp at r), h2, h3, u.other h4 (fun r => by simp at r)⟩
theorem StrF.lit (h2 : (a, false, obj STR litF [.ref b, .int 0]) ∈ As) (h3 : (b, false, arr .byte vs) ∈ As) : StrF As a vs := ⟨b, _, _, h2, FAt.head, FAt.tail FAt.head, h3⟩
/-- what is not written any more stays -/
def Stay (As As' : List Ent) : Prop := ∀ e ∈ As, e.2.1 = false → e ∈ As'
theorem Stay.refl (As : List Ent) : Stay As As := fun _ h _ => h
theorem Stay.trans (p : Stay As As') (q : Stay As' As'') : Stay As As'' := fun e h w => q e (p e h w) w
theorem Sub.stay (p : Sub As As') : Stay As As' := fun e h _ => p e h
theorem Upd.stay (u : Upd As a sc sc' As') : Stay As As' := fun e h w => u.other h (fun q => by subst q; cases w)
theorem Frz.stay (u : Frz As a sc As') : Stay As As' := fun e h w => u.other h (fun q => by subst q; cases w)
theorem StrF.stay (q : StrF As a vs) (s : Stay As As') : StrF As' a vs := by
  obtain ⟨b, fs, us, h1, h2, h3, h4⟩ := q; exact ⟨b, fs, us, s _ h1 rfl, h2, h3, s _ h4 rfl⟩
theorem LitOk.stay {Li : List LitE} {own text : String} {idx : Nat} (q : LitOk As Li own idx text vs) (s : Stay As As') : LitOk As' Li own idx text vs :=
  q.imp id fun ⟨a, b, h1, h2, h3⟩ => ⟨a, b, h1, s _ h2 rfl, s _ h3 rfl⟩
/-- all but two cells stay -/
def Kp2 (As : List Ent) (x y : Ent) (As' : List Ent) : Prop := ∀ e ∈ As, e ≠ x → e ≠ y → e ∈ As'
theorem Kp2.stay {x y : Ent} (q : Kp2 As x y As') (hx : x.2.1 = true) (hy : y.2.1 = true) : Stay As As' := fun e h w => q e h (fun r => by subst r; rw [hx] at w; cases w) (fun r => by subst r; rw [hy] at w; cases w)
end Frzs
section Laws
variable {G : Gx} {K : Kx} {y : MethodName} {code : ByteArray} {ret : Option FieldType} {R : Room} {Q : Qx} {As As' : List Ent} {Li Li' : List LitE} {cells slots pc pc' : Nat} {Ls Ls' : List Slot} {st st' : List Value} {idx : Nat} {a b : Addr} {C O n d R0 host : String} {v : Value} {sc : SC} {t : FieldType} {vs us us' : List Value}
theorem W.frz (u : Frz As a sc As') (nx : W G K y code ret R Q As' Li cells slots pc Ls st) : W G K y code ret R Q As Li cells slots pc Ls st :=
  fun T vm0 k0 locs ok X hS hk hN hI hL hF => nx T vm0 k0 locs ok X hS hk hN (hI.frz u) hL hF
theorem AV.arv {Z : State} {h : Heap} {w : Bool} (A : AV Z h a w t vs) : ∃ k, Arv Z h a k t vs.length.toInt32 vs .null ∧ (w = true → t = .byte → Z.vm.findClass "[B" = some k) := by
  obtain ⟨c, A, e1, e2, e3, e4⟩ := A
  have hs : c.slots.size = vs.length := by rw [← e1]; simp
  refine ⟨c.cls, ⟨c, A, rfl, by rw [n_clamp e2, hs], n_nn e2, fun k hk => ?_, fun i hi => ?_⟩, fun hw ht => (e4 hw).2 ht⟩
  · have hk' : k < vs.length := by rw [← hs]; exact hk
    rw [List.getD_eq_getElem?_getD, List.getElem?_eq_getElem hk', Option.getD_some, ← Array.getElem?_toList, e1, List.getElem?_eq_getElem hk']
  · have hi' : i < vs.length := by rw [← hs]; exact hi
    rw [List.getD_eq_getElem?_getD, List.getElem?_eq_getElem hi', Option.getD_some]
    exact e3 _ (List.getElem_mem hi')
theorem AV.of_arv {Z : State} {h : Heap} {w : Bool} {k : ClassId} {z : Int32} {dv : Value} (A : Arv Z h a k t z vs dv) (hz : z.toNatClampNeg = vs.length) (h31 : vs.length < 2147483648) (rk : refKind t = false) (hB : t = .byte → Z.vm.findClass "[B" = some k) : AV Z h a w t vs := by
  obtain ⟨c, A, ek, e2, -, e4, e5⟩ := A
  have hs : c.slots.size = vs.length := e2.trans hz
  refine ⟨c, A, List.ext_getElem? fun i => ?_, h31, fun v hv => ?_, fun _ => ⟨(fun C e => by subst e; cases rk), fun e => by rw [ek]; exact hB e⟩⟩
  · by_cases hi : i < vs.length
    · have := e4 i (by omega)
      rw [List.getD_eq_getElem?_getD, List.getElem?_eq_getElem hi, Option.getD_some] at this
      rw [Array.getElem?_toList, this, List.getElem?_eq_getElem hi]
    · rw [List.getElem?_eq_none (by rw [Array.length_toList]; omega), List.getElem?_eq_none (by omega)]
  · obtain ⟨i, hi, rfl⟩ := List.getElem_of_mem hv
    have := e5 i (by omega)
    rwa [List.getD_eq_getElem?_getD, List.getElem?_eq_getElem hi, Option.getD_some] at this
theorem nfw : nativeFrameWords "java/lang/System" "arraycopy" 5 = 7 := by decide +kernel
/-- System.arraycopy of an array of primitives into one of the walk's own -/
theorem W.acopy {sp dp nn : Int32} {i j n : Nat} (hd : decode code pc = .ok (.invokestatic idx, 3)) (w1 : (Cond.methodLink y.cls idx Jvm.Stand.acN).before G.a0 G.Z = true) (w2 : (Cond.native Jvm.Stand.acN).before G.a0 G.Z = true) (w3 : (Cond.static Jvm.Stand.acN).before G.a0 G.Z = true) (w4 : (Cond.initialized "java/lang/System").before G.a0 G.Z = true)
    (hs : AVin G As a t vs) (rk : refKind t = false) (h1 : ¬ sp < 0) (h2 : ¬ dp < 0) (h3 : ¬ nn < 0) (hi : sp.toNatClampNeg = i) (hj : dp.toNatClampNeg = j) (hn : nn.toNatClampNeg = n) (l1 : i + n ≤ vs.length) (l2 : j + n ≤ us.length)
    (hv : us.take j ++ (vs.drop i).take n ++ us.drop (j + n) = us') (up : Upd As b (arr t us) (arr t us') As') (hf : 1 ≤ R.frames) (hl : wt st + 18 ≤ R.locals)
    (nx : W G K y code ret R Q As' Li cells slots (pc + 3) Ls st) : W G K y code ret R Q As Li cells slots pc Ls (.int nn :: .int dp :: .ref b :: .int sp :: .ref a :: st) := by
  intro T vm0 k0 locs ok X hS hk hN hI hL hF
  have hm := up.mem
  have AB : AV G.Z T.heap b true t us := hI.av hm
  have AA := hs.get hI
  obtain ⟨wa, AA⟩ : ∃ w, AV G.Z T.heap a w t vs := ⟨_, AA⟩
  obtain ⟨ka, A1, -⟩ := AA.arv
  obtain ⟨kb, B1, B1'⟩ := AB.arv
  have a31 : vs.length < 2147483648 := by obtain ⟨_, _, _, q, _⟩ := AA; exact q
  have b31 : us.length < 2147483648 := by obtain ⟨_, _, _, q, _⟩ := AB; exact q
  subst hi; subst hj; subst hn
  obtain ⟨T', h', L, X', e', F', Kp, B2, st'⟩ := cpA X ok.1 (ok_Z ok hS) (ok_own ok hS) w1 w2 w3 w4 rfl A1 B1 (Or.inl ⟨rfl, rk⟩) h1 h2 h3 (by rw [n_clamp a31]; exact l1) (by rw [n_clamp b31]; exact l2) rfl l2 hF ((hI.2.2 _ hm).1 rfl)
    (g := mkF K.m pc Ls.toArray (.int nn :: .int dp :: .ref b :: .int sp :: .ref a :: st)) rfl (by rw [ok.2.2.1]; simp) rfl (hb ok.2.1 hd) hf (wt_le st) (by rw [nfw]; exact hl)
  have eu : ((List.range nn.toNatClampNeg).map fun i => vs.getD (sp.toNatClampNeg + i) Value.null) = (vs.drop sp.toNatClampNeg).take nn.toNatClampNeg := by
    refine List.ext_getElem (by simp; omega) fun i q1 q2 => ?_
    have q : sp.toNatClampNeg + i < vs.length := by simp at q1; omega
    simp [List.getD_eq_getElem?_getD, List.getElem?_eq_getElem q]
  rw [eu, hv] at B2
  have ul : us'.length = us.length := by rw [← hv]; simp; omega
  have D : Des G.Z G.a0 h' b true (arr t us') := AV.of_arv B2 (by rw [n_clamp b31, ul]) (by rw [ul]; exact b31) rk (B1' rfl)
  obtain ⟨U, u', g1, g2⟩ := nx T' vm0 k0 L ok X' hS (by rw [e']; exact Nat.le_trans hk Kp.1) hN (by rw [e']; exact hI.upd up (fun x hx c q => Kp.2.1 x c q (by simpa using hx)) Kp.1 D) hL F'
  exact ⟨U, u', st' _ g1, g2⟩
end Laws
end Jvm.Own
namespace Jvm.Own
open Sem ClassFile Op Lib Bundle Jvm.Stand Jvm.Free Jvm.LawKit Jvm.RoadKit
/-- the lookup from a class that declares the method finds it: no word of its own is needed where a class selects another of its methods -/
theorem same_of {Z : State} {a0 : Array Value} {C : String} {z z' : MethodName} (wi : (Cond.instanceMethod z).before a0 Z = true) (ws : (Cond.selects C z' z').before a0 Z = true) (hc : z'.cls = z.cls) (hy : z.cls ≠ "java/lang/invoke/MethodHandle" ∧ z.cls ≠ "java/lang/invoke/VarHandle") :
    (Cond.sameMethod z.cls z.cls z.name z.desc).before a0 Z = true := by
  obtain ⟨mk, meth, hn, -⟩ := Cond.instanceMethod_spec wi
  have hf := State.methodFound?_of_named hn hy
  have hcl := findClass_of_methodNamed hn
  obtain ⟨c2, r2, m2, q1, q2, q3, q4, kP, hkP, hkPi⟩ := Cond.selects_spec ws
  have hcl' := findClass_of_methodNamed q3
  rw [hc] at hcl'
  have e : mk.cls = m2.cls := by
    first | exact Option.some.inj (hcl.symm.trans hcl') | (exact (Option.some.inj (hcl.symm.trans hcl')))
  have hkP' : Z.vm.classes[mk.cls]? = some kP := by rw [e]; exact hkP
  have hn' : Z.methodNamed? ⟨z.cls, z.name, z.desc⟩ = some mk := hn
  simp [Cond.before, Cond.holds, Cond.value, hcl, hf, hn', hkP', hkPi]
end Jvm.Own
namespace Jvm.Own
open Sem ClassFile Op Lib Bundle Jvm.Stand Jvm.Free Jvm.LawKit Jvm.RoadKit
/-! ### a builder's bytes -/
def pad (xs : List Int32) (cap : Nat) : List Value := xs.map Value.int ++ List.replicate (cap - xs.length) (.int 0)
def grow (cap need : Nat) : Nat := if need ≤ cap then cap else cap + max (need - cap) (cap + 2)
section
variable {xs ys : List Int32} {cap cap' need a b : Nat}
theorem pad_len (h : xs.length ≤ cap) : (pad xs cap).length = cap := by simp [pad]; omega
theorem pad_nil (cap : Nat) : pad [] cap = List.replicate cap (.int 0) := by simp [pad]
theorem pad_grow (h : xs.length ≤ cap) (h2 : cap ≤ cap') : pad xs cap ++ List.replicate (cap' - cap) (.int 0) = pad xs cap' := by
  rw [pad, pad, List.append_assoc, List.replicate_append_replicate]; congr 2; omega
theorem pad_take (xs : List Int32) (cap : Nat) : (pad xs cap).take xs.length = xs.map Value.int := by
  rw [pad, List.take_left' (by simp)]
theorem pad_put (h : xs.length + ys.length ≤ cap) : (pad xs cap).take xs.length ++ ys.map Value.int ++ (pad xs cap).drop (xs.length + ys.length) = pad (xs ++ ys) cap := by
  rw [pad_take, pad, pad, List.drop_append, List.drop_eq_nil_of_le (by simp), List.nil_append, List.drop_replicate, List.map_append]
  congr 2
  simp; omega
theorem grow_le (h : need ≤ cap) : grow cap need = cap := if_pos h
theorem grow_ge : need ≤ grow cap need := by unfold grow; split <;> omega
theorem grow_mono : cap ≤ grow cap need := by unfold grow; split <;> omega
theorem grow_gt (h : ¬ need ≤ cap) : grow cap need = cap + max (need - cap) (cap + 2) := if_neg h
theorem n_lt_iff (ha : a < 2147483648) (hb : b < 2147483648) : a.toInt32 < b.toInt32 ↔ a < b := ⟨fun h => Nat.lt_of_not_le fun q => n_nlt q ha h, fun h => n_lt h hb⟩
theorem n_pos (h : 0 < a) (ha : a < 2147483648) : (0 : Int32) < a.toInt32 := n_lt (a := 0) h ha
theorem n_subnp (h : a ≤ b) (hb : b < 2147483648) : ¬ (0 : Int32) < a.toInt32 - b.toInt32 := by
  have e : a.toInt32 - b.toInt32 = -((b - a).toInt32) := by rw [← n_sub h, Int32.neg_sub]
  rw [e, Int32.lt_iff_toInt_lt]
  have h1 := n_toInt (a := b - a) (by omega)
  have h0 : (0 : Int32).toInt = 0 := rfl
  rw [Int32.toInt_neg, h1, h0]
  have : (-((b - a : Nat) : Int)).bmod (2 ^ 32) = -((b - a : Nat) : Int) := Int.bmod_eq_of_le (by omega) (by omega)
  omega
theorem n_ne (h : a ≠ b) (ha : a < 2147483648) (hb : b < 2147483648) : ¬ a.toInt32 = b.toInt32 := fun q => h (n_inj ha hb q)
theorem n_max (ha : a < 2147483648) (hb : b < 2147483648) : (h : a.toInt32 < b.toInt32) → max a b = b := fun h => Nat.max_eq_right (Nat.le_of_lt ((n_lt_iff ha hb).mp h))
theorem n_max' (ha : a < 2147483648) (hb : b < 2147483648) : (h : ¬ a.toInt32 < b.toInt32) → max a b = a := fun h => Nat.max_eq_left (Nat.le_of_not_lt fun q => h ((n_lt_iff ha hb).mpr q))
theorem n_min (ha : a < 2147483648) (hb : b < 2147483648) : (h : b.toInt32 < a.toInt32) → min a b = b := fun h => Nat.min_eq_right (Nat.le_of_lt ((n_lt_iff hb ha).mp h))
theorem n_min' (ha : a < 2147483648) (hb : b < 2147483648) : (h : ¬ b.toInt32 < a.toInt32) → min a b = a := fun h => Nat.min_eq_left (Nat.le_of_not_lt fun q => h ((n_lt_iff hb ha).mpr q))
theorem shl0 (n : Int32) : n <<< ((0 : Int32) &&& 31) = n := by
  rw [show ((0 : Int32) &&& 31) = 0 from by decide]
  apply Int32.toBitVec_inj.mp
  simp
theorem shr0' (n : Int32) : n >>> ((0 : Int32) &&& 31) = n := by
  rw [show ((0 : Int32) &&& 31) = 0 from by decide]; exact shr0 n
end
end Jvm.Own
namespace Jvm.Own
open Sem ClassFile Op Lib Bundle Jvm.Stand Jvm.Free Jvm.LawKit Jvm.RoadKit
theorem decl_of {Z : State} {a0 : Array Value} {z : MethodName} {bytes : ByteArray} {mL : Nat} {ret : Option FieldType} (wi : (Cond.instanceMethod z).before a0 Z = true) (wc : (Cond.code z bytes mL ret).before a0 Z = true) : (Cond.declares z).before a0 Z = true := by
  obtain ⟨m, meth, hn, hm, hs, -⟩ := Cond.instanceMethod_spec wi
  obtain ⟨meth', c, hm', -, -, -, -, -, -, hsig⟩ := Cond.code_spec hn wc
  cases hm.symm.trans hm'
  simp [Cond.before, Cond.holds, Cond.value, hn, hm, hs, hsig]
end Jvm.Own
namespace Jvm.Own
open Sem ClassFile Op Lib Bundle Jvm.Stand Jvm.Free Jvm.LawKit Jvm.RoadKit
theorem nf_cls {G : Gx} {C : String} {x z' : MethodName} (ws : (Cond.selects C z' z').before G.a0 G.Z = true) (hc : z'.cls = x.cls) : ∀ s : State, G.Z.Warmed39 s.vm → NotFace s x := fun s hZ r0 h0 => by
  obtain ⟨c2, r2, m2, q1, q2, q3, q4, kP, hkP, hkPi⟩ := Cond.selects_spec (mvT (args := #[]) hZ ws)
  have e1 := findClass_of_methodNamed h0
  have e2 := findClass_of_methodNamed q3
  rw [hc] at e2
  have e : r0.cls = m2.cls := Option.some.inj (e1.symm.trans e2)
  exact ⟨kP, by rw [e]; exact hkP, hkPi⟩
end Jvm.Own
namespace Jvm.Own
open Sem ClassFile Op Lib Bundle Jvm.Stand Jvm.Free Jvm.LawKit Jvm.RoadKit
theorem LX.not {Ts : List String} {Li L : List LitE} {t : String} (a : LX Ts Li L) (h : t ∉ Li.map fun q => q.2.2.1) (ht : t ∉ Ts) : t ∉ L.map fun q => q.2.2.1 := by
  obtain ⟨M, rfl, g⟩ := a
  intro q
  rw [List.map_append] at q
  rcases List.mem_append.mp q with q | q
  · obtain ⟨r, hr, e⟩ := List.mem_map.mp q
    exact ht (e ▸ g r hr)
  · exact h q
theorem perm22 {α : Type} {a b c d : α} {l : List α} : (a :: b :: c :: d :: l).Perm (c :: d :: a :: b :: l) :=
  List.perm_append_comm_assoc [a, b] [c, d] l
/-- the signs of a text, as a builder holds them -/
def txb (s : String) : List Int32 := s.toList.map fun c => Jvm.Lit.byteI c.toNat.toUInt16
theorem txb_map (s : String) : (s.toList.map fun c => Value.int (Jvm.Lit.byteI c.toNat.toUInt16)) = (txb s).map Value.int := by simp [txb, List.map_map, Function.comp_def]
theorem txb_len (s : String) : (txb s).length = s.toList.length := by simp [txb]
end Jvm.Own
namespace Jvm.Own
open Sem ClassFile Op Lib Bundle Jvm.Stand Jvm.Free Jvm.LawKit Jvm.RoadKit
section
variable {As R : List Ent} {x y e : Ent} {a : Addr} {vs : List Value}
theorem two_front (hx : x ∈ As) (hy : y ∈ As) (hne : y ≠ x) : ∃ R, As.Perm (x :: y :: R) := by
  obtain ⟨p, q, rfl⟩ := List.append_of_mem hx
  have hy' : y ∈ p ++ q := by
    rcases List.mem_append.mp hy with h | h
    · exact List.mem_append_left _ h
    · rcases List.mem_cons.mp h with h | h
      · exact absurd h hne
      · exact List.mem_append_right _ h
  obtain ⟨p', q', e⟩ := List.append_of_mem hy'
  refine ⟨p' ++ q', List.perm_middle.trans (List.Perm.cons _ ?_)⟩
  rw [e]
  exact List.perm_middle
theorem in_front (hp : As.Perm (x :: y :: R)) (hx : x.2.1 = true) (hy : y.2.1 = true) (he : e ∈ As) (hw : e.2.1 = false) : e ∈ R := by
  rcases List.mem_cons.mp (hp.mem_iff.mp he) with rfl | h
  · rw [hx] at hw; cases hw
  · rcases List.mem_cons.mp h with rfl | h
    · rw [hy] at hw; cases hw
    · exact h
theorem StrF.front (q : StrF As a vs) (hp : As.Perm (x :: y :: R)) (hx : x.2.1 = true) (hy : y.2.1 = true) : StrF R a vs := by
  obtain ⟨b, fs, us, h1, h2, h3, h4⟩ := q
  exact ⟨b, fs, us, in_front hp hx hy h1 rfl, h2, h3, in_front hp hx hy h4 rfl⟩
end
end Jvm.Own
namespace Jvm.Own
open Sem ClassFile Op Lib Bundle Jvm.Stand Jvm.Free Jvm.LawKit Jvm.RoadKit
section Laws
variable {G : Gx} {K : Kx} {y : MethodName} {code : ByteArray} {ret : Option FieldType} {R : Room} {Q : Qx} {As As' : List Ent} {Li Li' : List LitE} {cells slots pc pc' : Nat} {Ls Ls' : List Slot} {st st' : List Value} {idx : Nat} {a b : Addr} {vs : List Value}
/-- a byte[] of the walk's own is cloned -/
theorem W.cloneB (cap : Nat) (hd : decode code pc = .ok (.invokevirtual idx, 3)) (w1 : (Cond.methodLink y.cls idx ⟨"[B", "clone", "()Ljava/lang/Object;"⟩).before G.a0 G.Z = true) (w2 : (Cond.sameMethod "[B" "java/lang/Object" "clone" "()Ljava/lang/Object;").before G.a0 G.Z = true) (w3 : (Cond.native ⟨"java/lang/Object", "clone", "()Ljava/lang/Object;"⟩).before G.a0 G.Z = true)
    (w4 : (Cond.instanceMethod ⟨"java/lang/Object", "clone", "()Ljava/lang/Object;"⟩).before G.a0 G.Z = true) (w5 : (Cond.selects "[B" ⟨"[B", "clone", "()Ljava/lang/Object;"⟩ ⟨"java/lang/Object", "clone", "()Ljava/lang/Object;"⟩).before G.a0 G.Z = true) (w6 : (Cond.castable "[B" "java/lang/Cloneable").before G.a0 G.Z = true)
    (hm : (a, true, arr .byte vs) ∈ As) (hcap : vs.length ≤ cap) (hf : 1 ≤ R.frames) (hl : wt st + 14 ≤ R.locals) (hc : cells + 1 ≤ R.cells) (hs : slots + cap ≤ R.slots)
    (nx : ∀ o, W G K y code ret R Q ((o, true, arr .byte vs) :: As) Li (cells + 1) (slots + cap) (pc + 3) Ls (.ref o :: st)) : W G K y code ret R Q As Li cells slots pc Ls (.ref a :: st) := by
  intro T vm0 k0 locs ok X hS hk hN hI hL hF
  obtain ⟨c, A, e1, e2, e3, e4⟩ := hI.av hm
  have hB := (e4 rfl).2 rfl
  obtain ⟨hst, k, hkk, comp, hkind⟩ := A.2.1
  have hvm : c.vm.isStatics = false := by
    cases hq : c.vm <;> first | rfl | exact absurd hq (hst _)
  have E : Exa G.Z T.heap a "[B" := ⟨c, k, A.1, hB, hkk, hvm, fun q => by rw [hkind] at q; cases q⟩
  have F : FitC G.Z c := fun i v hv => by
    have hmem : v ∈ vs := by
      rw [← e1]
      obtain ⟨hi, rfl⟩ := Array.getElem?_eq_some_iff.mp hv
      simp
    have q := e3 v hmem
    simp [State.fitsSlot, State.slotType?, hkk, hkind, q]
  obtain ⟨T', h', X', e', Ex, A', E', st'⟩ := cloneA X ok.1 (ok_Z ok hS) (ok_own ok hS) w1 w2 w3 w4 w5 w6 rfl A E F (g := mkF K.m pc Ls.toArray (.ref a :: st)) rfl (by rw [ok.2.2.1]; simp) rfl (hb ok.2.1 hd) hf (wt_le st) hl (cap := cap) (by rw [size_of e1]; exact hcap) hc hs
  have hD : Des G.Z G.a0 h' T.heap.size true (arr .byte vs) := ⟨_, A', e1, e2, e3, fun _ => ⟨(fun C q => by cases q), fun _ => hB⟩⟩
  obtain ⟨U, u, g1, g2⟩ := nx T.heap.size T' vm0 k0 locs ok X' hS (by rw [e']; exact Nat.le_trans hk Ex.1) hN (by rw [e']; exact hI.push Ex hD) hL hF
  exact ⟨U, u, st' _ g1, g2⟩
/-- a byte[] of the walk's own is of the class "[B" -/
theorem W.castB {D : String} (wl : (Cond.classLink y.cls idx "[B").before G.a0 G.Z = true) (hd : decode code pc = .ok (.checkcast idx, 3)) (hm : (a, true, arr .byte vs) ∈ As)
    (nx : W G K y code ret R Q As Li cells slots (pc + 3) Ls (.ref a :: st)) : W G K y code ret R Q As Li cells slots pc Ls (.ref a :: st) := by
  intro T vm0 k0 locs ok X hS hk hN hI hL hF
  obtain ⟨c, A, e1, e2, e3, e4⟩ := hI.av hm
  have hB := (e4 rfl).2 rfl
  obtain ⟨hst, k, hkk, comp, hkind⟩ := A.2.1
  have hvm : c.vm.isStatics = false := by
    cases hq : c.vm <;> first | rfl | exact absurd hq (hst _)
  have E : Exa G.Z T.heap a "[B" := ⟨c, k, A.1, hB, hkk, hvm, fun q => by rw [hkind] at q; cases q⟩
  obtain ⟨T', X', e', st'⟩ := castY X ok.1 (ok_Z ok hS) (ok_own ok hS) wl rfl (Ins.self E) (g := mkF K.m pc Ls.toArray (.ref a :: st)) rfl rfl (hb ok.2.1 hd)
  obtain ⟨U, u, h1, h2⟩ := nx T' vm0 k0 locs ok X' hS (by rw [e']; exact hk) hN (by rw [e']; exact hI) hL hF
  exact ⟨U, u, st' _ h1, h2⟩
end Laws
/-! ### all String constants that the walk has loaded are here -/
section LAs
variable {As As' : List Ent} {Li : List LitE} {a b : Addr} {own text : String} {idx : Nat} {sc sc' : SC} {e : Ent}
def LA (As : List Ent) (Li : List LitE) : Prop := ∀ q ∈ Li, ∃ b, (q.2.2.2, false, obj "java/lang/String" litF [.ref b, .int 0]) ∈ As ∧ (b, false, arr .byte ((txb q.2.2.1).map Value.int)) ∈ As
theorem LA.nil (As : List Ent) : LA As [] := fun _ h => nomatch h
theorem LA.stay (h : LA As Li) (s : Stay As As') : LA As' Li := fun q hq => by obtain ⟨b, h1, h2⟩ := h q hq; exact ⟨b, s _ h1 rfl, s _ h2 rfl⟩
theorem LA.sub (h : LA As Li) (s : Sub As As') : LA As' Li := h.stay s.stay
theorem LA.cons1 (h : LA As Li) : LA (e :: As) Li := h.sub (Sub.cons (Sub.refl _))
theorem LA.lit (h : LA As Li) : LA ((a, false, obj "java/lang/String" litF [.ref b, .int 0]) :: (b, false, arr .byte ((txb text).map Value.int)) :: As) ((own, idx, text, a) :: Li) := fun q hq => by
  rcases List.mem_cons.mp hq with rfl | hq
  · exact ⟨b, List.Mem.head _, List.Mem.tail _ (List.Mem.head _)⟩
  · obtain ⟨c, h1, h2⟩ := h q hq; exact ⟨c, List.Mem.tail _ (List.Mem.tail _ h1), List.Mem.tail _ (List.Mem.tail _ h2)⟩
theorem LA.g (h : LA As Li) (text : String) : LitG As Li text ((txb text).map Value.int) := fun q hq e => by subst e; exact h q hq
theorem LA.perm (h : LA As Li) (p : As.Perm As') : LA As' Li := h.sub fun e he => p.mem_iff.mp he
theorem LA.front {x y : Ent} {R : List Ent} (h : LA As Li) (hp : As.Perm (x :: y :: R)) (hx : x.2.1 = true) (hy : y.2.1 = true) : LA R Li := fun q hq => by
  obtain ⟨b, h1, h2⟩ := h q hq; exact ⟨b, in_front hp hx hy h1 rfl, in_front hp hx hy h2 rfl⟩
end LAs
end Jvm.Own
namespace Jvm.Pilot.@@N@@
open Jvm Jvm.ClassFile Sem Op Lib Jvm.Free Jvm.Stand Jvm.LawKit Jvm.RoadKit Bundle Jvm.Pilot.@@N@@.Jvm.D
theorem d6_0 : decode jdk_52_method_21_code 0 = .ok (.iconst 0, 1) := by decide +kernel
theorem d6_1 : decode jdk_52_method_21_code 1 = .ok (.istore 5, 2) := by decide +kernel
theorem d6_3 : decode jdk_52_method_21_code 3 = .ok (.iload 5, 2) := by decide +kernel
theorem d6_5 : decode jdk_52_method_21_code 5 = .ok (.iload 4, 2) := by decide +kernel
theorem d6_7 : decode jdk_52_method_21_code 7 = .ok (.if_icmp .ge 37, 3) := by decide +kernel
theorem d6_44 : decode jdk_52_method_21_code 44 = .ok (.iload 4, 2) := by decide +kernel
theorem d6_46 : decode jdk_52_method_21_code 46 = .ok (.ireturn, 1) := by decide +kernel
theorem d6_10 : decode jdk_52_method_21_code 10 = .ok (.aload_n 0, 1) := by decide +kernel
theorem d6_11 : decode jdk_52_method_21_code 11 = .ok (.iload_n 1, 1) := by decide +kernel
theorem d6_12 : decode jdk_52_method_21_code 12 = .ok (.caload, 1) := by decide +kernel
theorem d6_13 : decode jdk_52_method_21_code 13 = .ok (.istore 6, 2) := by decide +kernel
theorem d6_15 : decode jdk_52_method_21_code 15 = .ok (.iload 6, 2) := by decide +kernel
theorem d6_17 : decode jdk_52_method_21_code 17 = .ok (.sipush 255, 3) := by decide +kernel
theorem d6_20 : decode jdk_52_method_21_code 20 = .ok (.if_icmp .le 6, 3) := by decide +kernel
theorem d6_26 : decode jdk_52_method_21_code 26 = .ok (.aload_n 2, 1) := by decide +kernel
theorem d6_27 : decode jdk_52_method_21_code 27 = .ok (.iload_n 3, 1) := by decide +kernel
theorem d6_28 : decode jdk_52_method_21_code 28 = .ok (.iload 6, 2) := by decide +kernel
theorem d6_30 : decode jdk_52_method_21_code 30 = .ok (.i2b, 1) := by decide +kernel
theorem d6_31 : decode jdk_52_method_21_code 31 = .ok (.bastore, 1) := by decide +kernel
theorem d6_32 : decode jdk_52_method_21_code 32 = .ok (.iinc 1 1, 3) := by decide +kernel
theorem d6_35 : decode jdk_52_method_21_code 35 = .ok (.iinc 3 1, 3) := by decide +kernel
theorem d6_38 : decode jdk_52_method_21_code 38 = .ok (.iinc 5 1, 3) := by decide +kernel
theorem d6_41 : decode jdk_52_method_21_code 41 = .ok (.goto (-38), 3) := by decide +kernel
theorem pn_5999480 : plainFor (⟨"java/lang/StringUTF16", "compress", "([CI[BII)I"⟩ : MethodName) = true := by first | exact plainFor_of_name (by first | (simp [plainName, overriddenIn]; done) | decide +kernel) | decide +kernel
set_option maxRecDepth 65536 in
set_option maxHeartbeats 4000000 in
theorem ct_cmp (G : Own.Gx) (hw : ∀ d ∈ tables_1, d.before G.a0 G.Z = true) {As : List Own.Ent} {Li : List Own.LitE} (c b : Addr) (cs : List Int32) (hlen : cs.length < 2147483648) (hch : ∀ z ∈ cs, ¬ (255 : Int32) < z) (hm : Own.AVin G As c .char (cs.map Value.int)) :
    Own.Ct G [] (⟨"java/lang/StringUTF16", "compress", "([CI[BII)I"⟩ : MethodName) jdk_52_method_21_code 7 (some .int) ({ frames := 0, cells := 0, slots := 0, locals := 0 } : Room) [.ref c, .int 0, .ref b, .int 0, .int cs.length.toInt32] ((b, true, Own.arr .byte (List.replicate cs.length (.int 0))) :: As) Li (fun v A L => v = some (.int cs.length.toInt32) ∧ A = (b, true, Own.arr .byte (cs.map Own.byt)) :: As ∧ L = Li) := by
  refine Own.Ct.intro pn_5999480 (Ls := [.val (.ref c), .val (.int 0), .val (.ref b), .val (.int 0), .val (.int cs.length.toInt32), .unset, .unset]) rfl rfl ?_
  intro K
  suffices loop : ∀ (m k : Nat) (o : Slot), k + m = cs.length → One o → Own.W G K (⟨"java/lang/StringUTF16", "compress", "([CI[BII)I"⟩ : MethodName) jdk_52_method_21_code (some .int) ({ frames := 0, cells := 0, slots := 0, locals := 0 } : Room) (fun v A L => v = some (.int cs.length.toInt32) ∧ A = (b, true, Own.arr .byte (cs.map Own.byt)) :: As ∧ L = Li) ((b, true, Own.arr .byte ((cs.take k).map Own.byt ++ List.replicate m (.int 0))) :: As) Li 0 0 3 [.val (.ref c), .val (.int k.toInt32), .val (.ref b), .val (.int k.toInt32), .val (.int cs.length.toInt32), .val (.int k.toInt32), o] [] by
    refine Own.W.iconst (pc := 0) (z := (0 : Int32)) d6_0 (by decide) ?_
    refine Own.W.istore (pc := 1) (Ls' := [_, _, _, _, _, _, _]) d6_1 rfl rfl ?_
    exact loop cs.length 0 .unset (by simp) One.u
  intro m
  induction m with
  | zero =>
    intro k o hk ho
    obtain rfl : k = cs.length := by omega
    refine Own.W.iload (pc := 3) d6_3 rfl ?_
    refine Own.W.iload (pc := 5) d6_5 rfl ?_
    refine Own.W.ic_ge (pc := 7) 44 d6_7 (by decide) (by decide) ?_ (fun h7 => absurd h7 (Own.n_nlt (Nat.le_refl _) hlen))
    intro h7
    refine Own.W.iload (pc := 44) d6_44 rfl ?_
    refine Own.W.iret (pc := 46) d6_46 rfl (by simp) (by first | rfl | decide) ?_ (Nat.le_of_ble_eq_true rfl) (Nat.le_of_ble_eq_true rfl)
    exact ⟨rfl, by rw [Own.own_done], rfl⟩
  | succ m ih =>
    intro k o hk ho
    have hkl : k < cs.length := by omega
    refine Own.W.iload (pc := 3) d6_3 rfl ?_
    refine Own.W.iload (pc := 5) d6_5 rfl ?_
    refine Own.W.ic_ge (pc := 7) 44 d6_7 (by decide) (by decide) (fun h7 => absurd h7 (fun q => q (Own.n_lt hkl hlen))) ?_
    intro h7
    refine Own.W.aloadN (pc := 10) d6_10 rfl rfl ?_
    refine Own.W.iloadN (pc := 11) d6_11 rfl ?_
    refine Own.W.caload (pc := 12) d6_12 (hm.sub (Own.Sub.cons (Own.Sub.refl _))) (Own.n_nn (by omega)) (v := .int cs[k]) (by rw [Own.n_clamp (by omega)]; simp [hkl]) ?_
    refine Own.W.istore (pc := 13) (Ls' := [_, _, _, _, _, _, _]) d6_13 (Own.store_one rfl ho rfl) rfl ?_
    refine Own.W.iload (pc := 15) d6_15 rfl ?_
    refine Own.W.sipush (pc := 17) (z := (255 : Int32)) d6_17 (by decide) ?_
    refine Own.W.ic_le (pc := 20) 26 d6_20 (by decide) (by decide) ?_ (fun h20 => absurd h20 (hch _ (List.getElem_mem _)))
    intro h20
    refine Own.W.aloadN (pc := 26) d6_26 rfl rfl ?_
    refine Own.W.iloadN (pc := 27) d6_27 rfl ?_
    refine Own.W.iload (pc := 28) d6_28 rfl ?_
    refine Own.W.i2b (pc := 30) d6_30 rfl ?_
    refine Own.W.bastore (pc := 31) d6_31 (Own.n_nn (by omega)) (Own.n_clamp (by omega)) (by simp; omega) (u := Own.byt cs[k]) (by simp [nar]) (Own.own_fill cs hkl hk) Own.Upd.head ?_
    refine Own.W.iinc (pc := 32) (z := (1 : Int32)) (Ls' := [_, _, _, _, _, _, _]) d6_32 rfl (by decide) rfl rfl ?_
    refine Own.W.iinc (pc := 35) (z := (1 : Int32)) (Ls' := [_, _, _, _, _, _, _]) d6_35 rfl (by decide) rfl rfl ?_
    refine Own.W.iinc (pc := 38) (z := (1 : Int32)) (Ls' := [_, _, _, _, _, _, _]) d6_38 rfl (by decide) rfl rfl ?_
    refine Own.W.goto (pc := 41) 3 d6_41 (by decide) (by decide) ?_
    have ih' := ih (k + 1) (.val (.int cs[k])) (by omega) (One.val rfl)
    rw [← Own.n_succ] at ih'
    exact ih'
theorem d5_0 : decode jdk_52_method_16_code 0 = .ok (.iload_n 2, 1) := by decide +kernel
theorem d5_1 : decode jdk_52_method_16_code 1 = .ok (.newarray .byte, 2) := by decide +kernel
theorem d5_3 : decode jdk_52_method_16_code 3 = .ok (.astore_n 3, 1) := by decide +kernel
theorem d5_4 : decode jdk_52_method_16_code 4 = .ok (.aload_n 0, 1) := by decide +kernel
theorem d5_5 : decode jdk_52_method_16_code 5 = .ok (.iload_n 1, 1) := by decide +kernel
theorem d5_6 : decode jdk_52_method_16_code 6 = .ok (.aload_n 3, 1) := by decide +kernel
theorem d5_7 : decode jdk_52_method_16_code 7 = .ok (.iconst 0, 1) := by decide +kernel
theorem d5_8 : decode jdk_52_method_16_code 8 = .ok (.iload_n 2, 1) := by decide +kernel
theorem d5_9 : decode jdk_52_method_16_code 9 = .ok (.invokestatic 115, 3) := by decide +kernel
theorem pd_79053557 : parseMethodDescriptor "([CI[BII)I" = some ⟨[(.array .char), .int, (.array .byte), .int, .int], some .int⟩ := by decide +kernel
theorem d5_12 : decode jdk_52_method_16_code 12 = .ok (.istore 4, 2) := by decide +kernel
theorem d5_14 : decode jdk_52_method_16_code 14 = .ok (.iload 4, 2) := by decide +kernel
theorem d5_16 : decode jdk_52_method_16_code 16 = .ok (.iload_n 2, 1) := by decide +kernel
theorem d5_17 : decode jdk_52_method_16_code 17 = .ok (.if_icmp .eq 40, 3) := by decide +kernel
theorem d5_57 : decode jdk_52_method_16_code 57 = .ok (.aload_n 3, 1) := by decide +kernel
theorem d5_58 : decode jdk_52_method_16_code 58 = .ok (.areturn, 1) := by decide +kernel
theorem pn_53398918 : plainFor (⟨"java/lang/StringUTF16", "compress", "([CII)[B"⟩ : MethodName) = true := by first | exact plainFor_of_name (by first | (simp [plainName, overriddenIn]; done) | decide +kernel) | decide +kernel
set_option maxRecDepth 65536 in
set_option maxHeartbeats 4000000 in
theorem ct_cmp2 (G : Own.Gx) (hw : ∀ d ∈ tables_1, d.before G.a0 G.Z = true) {As : List Own.Ent} {Li : List Own.LitE} (c : Addr) (cs : List Int32) (N : Nat) (hN : cs.length ≤ N) (hN4 : N ≤ 4000) (hch : ∀ z ∈ cs, ¬ (255 : Int32) < z) (hm : Own.AVin G As c .char (cs.map Value.int)) :
    Own.Ct G [] (⟨"java/lang/StringUTF16", "compress", "([CII)[B"⟩ : MethodName) jdk_52_method_16_code 6 (some (.array .byte)) ({ frames := 1, cells := 1, slots := N, locals := 18 } : Room) [.ref c, .int 0, .int cs.length.toInt32] As Li (fun v A L => ∃ b, v = some (.ref b) ∧ A = (b, true, Own.arr .byte (cs.map Own.byt)) :: As ∧ L = Li) := by
  refine Own.Ct.intro pn_53398918 (Ls := [.val (.ref c), .val (.int 0), .val (.int cs.length.toInt32), .unset, .unset, .unset]) rfl rfl ?_
  intro K
  refine Own.W.iloadN (pc := 0) d5_0 rfl ?_
  refine Own.W.newP (pc := 1) N (hw _ (List.mem_of_getElem? (i := 23) rfl)) d5_1 rfl (Own.n_nn (by omega)) (by rw [Own.n_clamp (by omega)]; exact hN) (by omega) (vs := (List.replicate cs.length (.int 0))) (by rw [Own.n_clamp (by omega)]; rfl) (Nat.le_of_ble_eq_true rfl) (by first | exact Nat.le_of_ble_eq_true rfl | (simp; done) | (simp; omega)) ?_
  intro o1
  refine Own.W.astoreN (pc := 3) (Ls' := [_, _, _, _, _, _]) d5_3 rfl rfl rfl ?_
  refine Own.W.aloadN (pc := 4) d5_4 rfl rfl ?_
  refine Own.W.iloadN (pc := 5) d5_5 rfl ?_
  refine Own.W.aloadN (pc := 6) d5_6 rfl rfl ?_
  refine Own.W.iconst (pc := 7) (z := (0 : Int32)) d5_7 (by decide) ?_
  refine Own.W.iloadN (pc := 8) d5_8 rfl ?_
  refine Own.W.callS (pc := 9) (ct_cmp G hw c o1 cs (by omega) hch hm) d5_9 (hw _ (List.mem_of_getElem? (i := 24) rfl)) (hw _ (List.mem_of_getElem? (i := 25) rfl)) (hw _ (List.mem_of_getElem? (i := 21) rfl)) (hw _ (List.mem_of_getElem? (i := 26) rfl)) (by decide) pd_79053557 rfl rfl (Nat.le_of_ble_eq_true rfl) (Nat.le_of_ble_eq_true rfl) (by first | exact Nat.le_of_ble_eq_true rfl | (simp; done) | (simp; omega)) (by first | exact Nat.le_of_ble_eq_true rfl | (simp; done) | (simp; omega)) ?_
  rintro _ _ _ ⟨rfl, rfl, rfl⟩
  refine Own.W.istore (pc := 12) (Ls' := [_, _, _, _, _, _]) d5_12 rfl rfl ?_
  refine Own.W.iload (pc := 14) d5_14 rfl ?_
  refine Own.W.iloadN (pc := 16) d5_16 rfl ?_
  refine Own.W.ic_eq (pc := 17) 57 d5_17 (by decide) (by decide) ?_ (fun h17 => absurd h17 (fun q => q rfl))
  intro h17
  refine Own.W.aloadN (pc := 57) d5_57 rfl rfl ?_
  refine Own.W.aret (pc := 58) d5_58 rfl rfl rfl ?_ (Nat.le_of_ble_eq_true rfl) (by first | exact Nat.le_of_ble_eq_true rfl | (simp; done) | (simp; omega))
  exact ⟨_, rfl, rfl, rfl⟩
theorem d7_0 : decode jdk_52_method_15_code 0 = .ok (.iload_n 1, 1) := by decide +kernel
theorem d7_1 : decode jdk_52_method_15_code 1 = .ok (.aload_n 0, 1) := by decide +kernel
theorem d7_2 : decode jdk_52_method_15_code 2 = .ok (.arraylength, 1) := by decide +kernel
theorem d7_3 : decode jdk_52_method_15_code 3 = .ok (.isub, 1) := by decide +kernel
theorem d7_4 : decode jdk_52_method_15_code 4 = .ok (.bipush 31, 2) := by decide +kernel
theorem d7_6 : decode jdk_52_method_15_code 6 = .ok (.iushr, 1) := by decide +kernel
theorem d7_7 : decode jdk_52_method_15_code 7 = .ok (.i2b, 1) := by decide +kernel
theorem d7_8 : decode jdk_52_method_15_code 8 = .ok (.ireturn, 1) := by decide +kernel
theorem pn_92531892 : plainFor (⟨"java/lang/StringUTF16", "coderFromArrayLen", "([BI)B"⟩ : MethodName) = true := by first | exact plainFor_of_name (by first | (simp [plainName, overriddenIn]; done) | decide +kernel) | decide +kernel
set_option maxRecDepth 65536 in
set_option maxHeartbeats 4000000 in
theorem ct_cod (G : Own.Gx) (hw : ∀ d ∈ tables_1, d.before G.a0 G.Z = true) {As : List Own.Ent} {Li : List Own.LitE} (b : Addr) (vs : List Value) (z : Int32) (hm : Own.AVin G As b .byte vs) (hz : vs.length.toInt32 = z) :
    Own.Ct G [] (⟨"java/lang/StringUTF16", "coderFromArrayLen", "([BI)B"⟩ : MethodName) jdk_52_method_15_code 2 (some .byte) ({ frames := 0, cells := 0, slots := 0, locals := 0 } : Room) [.ref b, .int z] As Li (fun v A L => v = some (.int 0) ∧ As = A ∧ Li = L) := by
  refine Own.Ct.intro pn_92531892 (Ls := [.val (.ref b), .val (.int z)]) rfl rfl ?_
  intro K
  refine Own.W.iloadN (pc := 0) d7_0 rfl ?_
  refine Own.W.aloadN (pc := 1) d7_1 rfl rfl ?_
  refine Own.W.alen (pc := 2) d7_2 hm hz ?_
  refine Own.W.isub (pc := 3) d7_3 (Int32.sub_self _) ?_
  refine Own.W.bipush (pc := 4) (z := (31 : Int32)) d7_4 (by decide) ?_
  refine Own.W.iushr (pc := 6) d7_6 (z := (0 : Int32)) (by decide) ?_
  refine Own.W.i2b (pc := 7) d7_7 (z := (0 : Int32)) (by decide) ?_
  refine Own.W.iret (pc := 8) d7_8 rfl (by simp) (by first | rfl | decide) ?_ (Nat.le_of_ble_eq_true rfl) (Nat.le_of_ble_eq_true rfl)
  exact ⟨rfl, rfl, rfl⟩
def F_java_lang_String : List Own.Fd := [("java/lang/String", "coder", "B"), ("java/lang/String", "value", "[B")]
theorem LF_java_lang_String (G : Own.Gx) (hw : ∀ d ∈ tables_1, d.before G.a0 G.Z = true) : Own.LaidAll G.Z G.a0 "java/lang/String" F_java_lang_String := ⟨by decide, Own.LaidAll.cons (Or.inr (hw _ (List.mem_of_getElem? (i := 31) rfl))) (t := .byte) (by decide) (Own.LaidAll.cons (Or.inr (hw _ (List.mem_of_getElem? (i := 33) rfl))) (t := (.array .byte)) (by decide) (Own.LaidAll.nil))⟩
theorem d3_0 : decode jdk_42_method_149_code 0 = .ok (.aload_n 0, 1) := by decide +kernel
theorem d3_1 : decode jdk_42_method_149_code 1 = .ok (.invokespecial 1, 3) := by decide +kernel
theorem d3_4 : decode jdk_42_method_149_code 4 = .ok (.iload_n 3, 1) := by decide +kernel
theorem d3_5 : decode jdk_42_method_149_code 5 = .ok (.ifCond .ne 22, 3) := by decide +kernel
theorem d3_27 : decode jdk_42_method_149_code 27 = .ok (.getstatic 38, 3) := by decide +kernel
theorem d3_30 : decode jdk_42_method_149_code 30 = .ok (.ifCond .eq 28, 3) := by decide +kernel
theorem d3_33 : decode jdk_42_method_149_code 33 = .ok (.aload_n 1, 1) := by decide +kernel
theorem d3_34 : decode jdk_42_method_149_code 34 = .ok (.iload_n 2, 1) := by decide +kernel
theorem d3_35 : decode jdk_42_method_149_code 35 = .ok (.iload_n 3, 1) := by decide +kernel
theorem d3_36 : decode jdk_42_method_149_code 36 = .ok (.invokestatic 177, 3) := by decide +kernel
theorem pd_86865603 : parseMethodDescriptor "([CII)[B" = some ⟨[(.array .char), .int, .int], some (.array .byte)⟩ := by decide +kernel
theorem d3_39 : decode jdk_42_method_149_code 39 = .ok (.astore 5, 2) := by decide +kernel
theorem d3_41 : decode jdk_42_method_149_code 41 = .ok (.aload_n 0, 1) := by decide +kernel
theorem d3_42 : decode jdk_42_method_149_code 42 = .ok (.aload 5, 2) := by decide +kernel
theorem d3_44 : decode jdk_42_method_149_code 44 = .ok (.iload_n 3, 1) := by decide +kernel
theorem d3_45 : decode jdk_42_method_149_code 45 = .ok (.invokestatic 47, 3) := by decide +kernel
theorem pd_7843550 : parseMethodDescriptor "([BI)B" = some ⟨[(.array .byte), .int], some .byte⟩ := by decide +kernel
theorem d3_48 : decode jdk_42_method_149_code 48 = .ok (.putfield 15, 3) := by decide +kernel
theorem d3_51 : decode jdk_42_method_149_code 51 = .ok (.aload_n 0, 1) := by decide +kernel
theorem d3_52 : decode jdk_42_method_149_code 52 = .ok (.aload 5, 2) := by decide +kernel
theorem d3_54 : decode jdk_42_method_149_code 54 = .ok (.putfield 9, 3) := by decide +kernel
theorem d3_57 : decode jdk_42_method_149_code 57 = .ok (.return_, 1) := by decide +kernel
theorem pn_33051558 : plainFor (⟨"java/lang/String", "<init>", "([CIILjava/lang/Void;)V"⟩ : MethodName) = true := by first | exact plainFor_of_name (by first | (simp [plainName, overriddenIn]; done) | decide +kernel) | decide +kernel
set_option maxRecDepth 65536 in
set_option maxHeartbeats 4000000 in
theorem ct_void (G : Own.Gx) (hw : ∀ d ∈ tables_1, d.before G.a0 G.Z = true) (hC : Own.CSt G) {As : List Own.Ent} {Li : List Own.LitE} (s c : Addr) (cs : List Int32) (N : Nat) (hpos : 0 < cs.length) (hN : cs.length ≤ N) (hN4 : N ≤ 4000) (hch : ∀ z ∈ cs, ¬ (255 : Int32) < z) (hm : Own.AVin G As c .char (cs.map Value.int)) :
    Own.Ct G [] (⟨"java/lang/String", "<init>", "([CIILjava/lang/Void;)V"⟩ : MethodName) jdk_42_method_149_code 6 none ({ frames := 2, cells := 1, slots := N, locals := 35 } : Room) [.ref s, .ref c, .int 0, .int cs.length.toInt32, .null] ((s, true, Own.obj "java/lang/String" F_java_lang_String [.int 0, .null]) :: As) Li (fun v A L => ∃ b, v = none ∧ A = (b, true, Own.arr .byte (cs.map Own.byt)) :: (s, true, Own.obj "java/lang/String" F_java_lang_String [.int 0, .ref b]) :: As ∧ L = Li) := by
  refine Own.Ct.intro pn_33051558 (Ls := [.val (.ref s), .val (.ref c), .val (.int 0), .val (.int cs.length.toInt32), .val (.null), .unset]) rfl rfl ?_
  intro K
  obtain ⟨cz, hC1, hC2⟩ := hC
  refine Own.W.aloadN (pc := 0) d3_0 rfl rfl ?_
  refine Own.W.callO (pc := 1) d3_1 (hw _ (List.mem_of_getElem? (i := 15) rfl)) (hw _ (List.mem_of_getElem? (i := 16) rfl)) (hw _ (List.mem_of_getElem? (i := 17) rfl)) (Nat.le_of_ble_eq_true rfl) (Nat.le_of_ble_eq_true rfl) ?_
  refine Own.W.iloadN (pc := 4) d3_4 rfl ?_
  refine Own.W.if_ne (pc := 5) 27 d3_5 (by decide) (by decide) ?_ (fun h5 => absurd h5 (Own.n_ne0 hpos (by omega)))
  intro h5
  refine Own.W.getS (pc := 27) (host := "") (Or.inl (hw _ (List.mem_of_getElem? (i := 18) rfl))) (Via.refl (O := "java/lang/String")) d3_27 hC1 ?_
  refine Own.W.if_eq (pc := 30) 58 d3_30 (by decide) (by decide) (fun h30 => absurd h30 hC2) ?_
  intro h30
  refine Own.W.aloadN (pc := 33) d3_33 rfl rfl ?_
  refine Own.W.iloadN (pc := 34) d3_34 rfl ?_
  refine Own.W.iloadN (pc := 35) d3_35 rfl ?_
  refine Own.W.callS (pc := 36) (ct_cmp2 G hw c cs N hN hN4 hch (hm.sub (Own.Sub.cons (Own.Sub.refl _)))) d3_36 (hw _ (List.mem_of_getElem? (i := 19) rfl)) (hw _ (List.mem_of_getElem? (i := 20) rfl)) (hw _ (List.mem_of_getElem? (i := 21) rfl)) (hw _ (List.mem_of_getElem? (i := 22) rfl)) (by decide) pd_86865603 rfl rfl (Nat.le_of_ble_eq_true rfl) (Nat.le_of_ble_eq_true rfl) (by first | exact Nat.le_of_ble_eq_true rfl | (simp; done) | (simp; omega)) (by first | exact Nat.le_of_ble_eq_true rfl | (simp; done) | (simp; omega)) ?_
  rintro _ _ _ ⟨b, rfl, rfl, rfl⟩
  refine Own.W.astore (pc := 39) (Ls' := [_, _, _, _, _, _]) d3_39 rfl rfl rfl ?_
  refine Own.W.aloadN (pc := 41) d3_41 rfl rfl ?_
  refine Own.W.aload (pc := 42) d3_42 rfl rfl ?_
  refine Own.W.iloadN (pc := 44) d3_44 rfl ?_
  refine Own.W.callS (pc := 45) (ct_cod G hw b _ _ (Own.AVin.mem (List.Mem.head _)) (by simp)) d3_45 (hw _ (List.mem_of_getElem? (i := 27) rfl)) (hw _ (List.mem_of_getElem? (i := 28) rfl)) (hw _ (List.mem_of_getElem? (i := 21) rfl)) (hw _ (List.mem_of_getElem? (i := 29) rfl)) (by decide) pd_7843550 rfl rfl (Nat.le_of_ble_eq_true rfl) (Nat.le_of_ble_eq_true rfl) (by first | exact Nat.le_of_ble_eq_true rfl | (simp; done) | (simp; omega)) (by first | exact Nat.le_of_ble_eq_true rfl | (simp; done) | (simp; omega)) ?_
  rintro _ _ _ ⟨rfl, rfl, rfl⟩
  refine Own.W.putN (pc := 48) (hw _ (List.mem_of_getElem? (i := 30) rfl)) (Via.refl (O := "java/lang/String")) d3_48 (Or.inr ⟨(hw _ (List.mem_of_getElem? (i := 31) rfl)), rfl, rfl⟩) (hw _ (List.mem_of_getElem? (i := 6) rfl)) (ty := .byte) (by decide) rfl (by first | rfl | decide) (by repeat (first | exact Own.Upd.head | exact Own.Upd.mid | apply Own.Upd.tail)) (by repeat (first | exact Own.FUp.head | apply Own.FUp.tail)) ?_
  refine Own.W.aloadN (pc := 51) d3_51 rfl rfl ?_
  refine Own.W.aload (pc := 52) d3_52 rfl rfl ?_
  refine Own.W.putF (pc := 54) (host := "") (Or.inl (hw _ (List.mem_of_getElem? (i := 32) rfl))) (Via.refl (O := "java/lang/String")) d3_54 (Or.inr ⟨(hw _ (List.mem_of_getElem? (i := 33) rfl)), rfl, rfl⟩) (hw _ (List.mem_of_getElem? (i := 6) rfl)) (ty := (.array .byte)) (by decide) rfl rfl (by repeat (first | exact Own.Upd.head | exact Own.Upd.mid | apply Own.Upd.tail)) (by repeat (first | exact Own.FUp.head | apply Own.FUp.tail)) ?_
  refine Own.W.vret (pc := 57) d3_57 rfl ?_ (Nat.le_of_ble_eq_true rfl) (by first | exact Nat.le_of_ble_eq_true rfl | (simp; done) | (simp; omega))
  exact ⟨b, rfl, rfl, rfl⟩
theorem d2_0 : decode jdk_42_method_3_code 0 = .ok (.aload_n 0, 1) := by decide +kernel
theorem d2_1 : decode jdk_42_method_3_code 1 = .ok (.aload_n 1, 1) := by decide +kernel
theorem d2_2 : decode jdk_42_method_3_code 2 = .ok (.iconst 0, 1) := by decide +kernel
theorem d2_3 : decode jdk_42_method_3_code 3 = .ok (.aload_n 1, 1) := by decide +kernel
theorem d2_4 : decode jdk_42_method_3_code 4 = .ok (.arraylength, 1) := by decide +kernel
theorem d2_5 : decode jdk_42_method_3_code 5 = .ok (.aconst_null, 1) := by decide +kernel
theorem d2_6 : decode jdk_42_method_3_code 6 = .ok (.invokespecial 27, 3) := by decide +kernel
theorem pd_91355479 : parseMethodDescriptor "([CIILjava/lang/Void;)V" = some ⟨[(.array .char), .int, .int, (.object "java/lang/Void")], none⟩ := by decide +kernel
theorem d2_9 : decode jdk_42_method_3_code 9 = .ok (.return_, 1) := by decide +kernel
theorem pn_55852025 : plainFor (⟨"java/lang/String", "<init>", "([C)V"⟩ : MethodName) = true := by first | exact plainFor_of_name (by first | (simp [plainName, overriddenIn]; done) | decide +kernel) | decide +kernel
set_option maxRecDepth 65536 in
set_option maxHeartbeats 4000000 in
theorem ct_str1 (G : Own.Gx) (hw : ∀ d ∈ tables_1, d.before G.a0 G.Z = true) (hC : Own.CSt G) {As : List Own.Ent} {Li : List Own.LitE} (s c : Addr) (cs : List Int32) (N : Nat) (hpos : 0 < cs.length) (hN : cs.length ≤ N) (hN4 : N ≤ 4000) (hch : ∀ z ∈ cs, ¬ (255 : Int32) < z) (hm : Own.AVin G As c .char (cs.map Value.int)) :
    Own.Ct G [] (⟨"java/lang/String", "<init>", "([C)V"⟩ : MethodName) jdk_42_method_3_code 2 none ({ frames := 3, cells := 1, slots := N, locals := 52 } : Room) [.ref s, .ref c] ((s, true, Own.obj "java/lang/String" F_java_lang_String [.int 0, .null]) :: As) Li (fun v A L => ∃ b, v = none ∧ A = (b, true, Own.arr .byte (cs.map Own.byt)) :: (s, true, Own.obj "java/lang/String" F_java_lang_String [.int 0, .ref b]) :: As ∧ L = Li) := by
  refine Own.Ct.intro pn_55852025 (Ls := [.val (.ref s), .val (.ref c)]) rfl rfl ?_
  intro K
  refine Own.W.aloadN (pc := 0) d2_0 rfl rfl ?_
  refine Own.W.aloadN (pc := 1) d2_1 rfl rfl ?_
  refine Own.W.iconst (pc := 2) (z := (0 : Int32)) d2_2 (by decide) ?_
  refine Own.W.aloadN (pc := 3) d2_3 rfl rfl ?_
  refine Own.W.alen (pc := 4) d2_4 (hm.sub (Own.Sub.cons (Own.Sub.refl _))) (z := cs.length.toInt32) (by simp) ?_
  refine Own.W.aconstNull (pc := 5) d2_5 ?_
  refine Own.W.callI (pc := 6) (ct_void G hw hC s c cs N hpos hN hN4 hch hm) d2_6 rfl (hw _ (List.mem_of_getElem? (i := 11) rfl)) (hw _ (List.mem_of_getElem? (i := 12) rfl)) (hw _ (List.mem_of_getElem? (i := 7) rfl)) (hw _ (List.mem_of_getElem? (i := 14) rfl)) (by decide) pd_91355479 rfl rfl (Nat.le_of_ble_eq_true rfl) (Nat.le_of_ble_eq_true rfl) (by first | exact Nat.le_of_ble_eq_true rfl | (simp; done) | (simp; omega)) (by first | exact Nat.le_of_ble_eq_true rfl | (simp; done) | (simp; omega)) ?_
  rintro _ _ _ ⟨b, rfl, rfl, rfl⟩
  refine Own.W.vret (pc := 9) d2_9 rfl ?_ (Nat.le_of_ble_eq_true rfl) (by first | exact Nat.le_of_ble_eq_true rfl | (simp; done) | (simp; omega))
  exact ⟨b, rfl, rfl, rfl⟩
theorem d19_0 : decode jdk_29_method_65_code 0 = .ok (.iload_n 0, 1) := by decide +kernel
theorem d19_1 : decode jdk_29_method_65_code 1 = .ok (.iload_n 1, 1) := by decide +kernel
theorem d19_2 : decode jdk_29_method_65_code 2 = .ok (.if_icmp .lt 7, 3) := by decide +kernel
theorem d19_9 : decode jdk_29_method_65_code 9 = .ok (.iload_n 1, 1) := by decide +kernel
theorem d19_10 : decode jdk_29_method_65_code 10 = .ok (.ireturn, 1) := by decide +kernel
theorem d19_5 : decode jdk_29_method_65_code 5 = .ok (.iload_n 0, 1) := by decide +kernel
theorem d19_6 : decode jdk_29_method_65_code 6 = .ok (.goto 4, 3) := by decide +kernel
theorem pn_31943339 : plainFor (⟨"java/lang/Math", "max", "(II)I"⟩ : MethodName) = true := by first | exact plainFor_of_name (by first | (simp [plainName, overriddenIn]; done) | decide +kernel) | decide +kernel
set_option maxRecDepth 65536 in
set_option maxHeartbeats 4000000 in
theorem ct_max (G : Own.Gx) (hw : ∀ d ∈ tables_1, d.before G.a0 G.Z = true) {As : List Own.Ent} {Li : List Own.LitE} (a b : Nat) (ha : a < 2147483648) (hb : b < 2147483648) :
    Own.Ct G [] (⟨"java/lang/Math", "max", "(II)I"⟩ : MethodName) jdk_29_method_65_code 2 (some .int) ({ frames := 0, cells := 0, slots := 0, locals := 0 } : Room) [.int a.toInt32, .int b.toInt32] As Li (fun v A L => v = some (.int (max a b).toInt32) ∧ As = A ∧ Li = L) := by
  refine Own.Ct.intro pn_31943339 (Ls := [.val (.int a.toInt32), .val (.int b.toInt32)]) rfl rfl ?_
  intro K
  refine Own.W.iloadN (pc := 0) d19_0 rfl ?_
  refine Own.W.iloadN (pc := 1) d19_1 rfl ?_
  refine Own.W.ic_lt (pc := 2) 9 d19_2 (by decide) (by decide) ?_ ?_
  · intro h2
    refine Own.W.iloadN (pc := 9) d19_9 rfl ?_
    refine Own.W.iret (pc := 10) d19_10 rfl (by simp) rfl ?_ (Nat.le_of_ble_eq_true rfl) (Nat.le_of_ble_eq_true rfl)
    exact ⟨by rw [Own.n_max ha hb h2], rfl, rfl⟩
  · intro h2
    refine Own.W.iloadN (pc := 5) d19_5 rfl ?_
    refine Own.W.goto (pc := 6) 10 d19_6 (by decide) (by decide) ?_
    refine Own.W.iret (pc := 10) d19_10 rfl (by simp) rfl ?_ (Nat.le_of_ble_eq_true rfl) (Nat.le_of_ble_eq_true rfl)
    exact ⟨by rw [Own.n_max' ha hb h2], rfl, rfl⟩
theorem d20_0 : decode jdk_29_method_69_code 0 = .ok (.iload_n 0, 1) := by decide +kernel
theorem d20_1 : decode jdk_29_method_69_code 1 = .ok (.iload_n 1, 1) := by decide +kernel
theorem d20_2 : decode jdk_29_method_69_code 2 = .ok (.if_icmp .gt 7, 3) := by decide +kernel
theorem d20_9 : decode jdk_29_method_69_code 9 = .ok (.iload_n 1, 1) := by decide +kernel
theorem d20_10 : decode jdk_29_method_69_code 10 = .ok (.ireturn, 1) := by decide +kernel
theorem d20_5 : decode jdk_29_method_69_code 5 = .ok (.iload_n 0, 1) := by decide +kernel
theorem d20_6 : decode jdk_29_method_69_code 6 = .ok (.goto 4, 3) := by decide +kernel
theorem pn_47292969 : plainFor (⟨"java/lang/Math", "min", "(II)I"⟩ : MethodName) = true := by first | exact plainFor_of_name (by first | (simp [plainName, overriddenIn]; done) | decide +kernel) | decide +kernel
set_option maxRecDepth 65536 in
set_option maxHeartbeats 4000000 in
theorem ct_min (G : Own.Gx) (hw : ∀ d ∈ tables_1, d.before G.a0 G.Z = true) {As : List Own.Ent} {Li : List Own.LitE} (a b : Nat) (ha : a < 2147483648) (hb : b < 2147483648) :
    Own.Ct G [] (⟨"java/lang/Math", "min", "(II)I"⟩ : MethodName) jdk_29_method_69_code 2 (some .int) ({ frames := 0, cells := 0, slots := 0, locals := 0 } : Room) [.int a.toInt32, .int b.toInt32] As Li (fun v A L => v = some (.int (min a b).toInt32) ∧ As = A ∧ Li = L) := by
  refine Own.Ct.intro pn_47292969 (Ls := [.val (.int a.toInt32), .val (.int b.toInt32)]) rfl rfl ?_
  intro K
  refine Own.W.iloadN (pc := 0) d20_0 rfl ?_
  refine Own.W.iloadN (pc := 1) d20_1 rfl ?_
  refine Own.W.ic_gt (pc := 2) 9 d20_2 (by decide) (by decide) ?_ ?_
  · intro h2
    refine Own.W.iloadN (pc := 9) d20_9 rfl ?_
    refine Own.W.iret (pc := 10) d20_10 rfl (by simp) rfl ?_ (Nat.le_of_ble_eq_true rfl) (Nat.le_of_ble_eq_true rfl)
    exact ⟨by rw [Own.n_min ha hb h2], rfl, rfl⟩
  · intro h2
    refine Own.W.iloadN (pc := 5) d20_5 rfl ?_
    refine Own.W.goto (pc := 6) 10 d20_6 (by decide) (by decide) ?_
    refine Own.W.iret (pc := 10) d20_10 rfl (by simp) rfl ?_ (Nat.le_of_ble_eq_true rfl) (Nat.le_of_ble_eq_true rfl)
    exact ⟨by rw [Own.n_min' ha hb h2], rfl, rfl⟩
theorem d16_0 : decode jdk_42_method_152_code 0 = .ok (.getstatic 38, 3) := by decide +kernel
theorem d16_3 : decode jdk_42_method_152_code 3 = .ok (.ifCond .eq 10, 3) := by decide +kernel
theorem d16_6 : decode jdk_42_method_152_code 6 = .ok (.aload_n 0, 1) := by decide +kernel
theorem d16_7 : decode jdk_42_method_152_code 7 = .ok (.getfield 15, 3) := by decide +kernel
theorem d16_10 : decode jdk_42_method_152_code 10 = .ok (.goto 4, 3) := by decide +kernel
theorem d16_14 : decode jdk_42_method_152_code 14 = .ok (.ireturn, 1) := by decide +kernel
theorem pn_39421446 : plainFor (⟨"java/lang/String", "coder", "()B"⟩ : MethodName) = true := by first | exact plainFor_of_name (by first | (simp [plainName, overriddenIn]; done) | decide +kernel) | decide +kernel
set_option maxRecDepth 65536 in
set_option maxHeartbeats 4000000 in
theorem ct_coder (G : Own.Gx) (hw : ∀ d ∈ tables_1, d.before G.a0 G.Z = true) (hC : Own.CSt G) {As : List Own.Ent} {Li : List Own.LitE} (a : Addr) (vs : List Value) (z : Int32) (hz : narrow .byte (.int z) = .int z) (ha : Own.StrIn G As a vs z) :
    Own.Ct G [] (⟨"java/lang/String", "coder", "()B"⟩ : MethodName) jdk_42_method_152_code 1 (some .byte) ({ frames := 0, cells := 0, slots := 0, locals := 0 } : Room) [.ref a] As Li (fun v A L => v = some (.int z) ∧ As = A ∧ Li = L) := by
  refine Own.Ct.intro pn_39421446 (Ls := [.val (.ref a)]) rfl rfl ?_
  intro K
  obtain ⟨cz, hC1, hC2⟩ := hC
  obtain ⟨ab, a1, a2, a3, a4⟩ := ha
  refine Own.W.getS (pc := 0) (host := "") (Or.inl (hw _ (List.mem_of_getElem? (i := 18) rfl))) (Via.refl (O := "java/lang/String")) d16_0 hC1 ?_
  refine Own.W.if_eq (pc := 3) 13 d16_3 (by decide) (by decide) (fun h3 => absurd h3 hC2) ?_
  intro h3
  refine Own.W.aloadN (pc := 6) d16_6 rfl rfl ?_
  refine Own.W.getI (pc := 7) (host := "") (Or.inl (hw _ (List.mem_of_getElem? (i := 30) rfl))) (Via.refl (O := "java/lang/String")) d16_7 a3 ?_
  refine Own.W.goto (pc := 10) 14 d16_10 (by decide) (by decide) ?_
  refine Own.W.iret (pc := 14) d16_14 rfl (by simp) hz ?_ (Nat.le_of_ble_eq_true rfl) (Nat.le_of_ble_eq_true rfl)
  exact ⟨rfl, rfl, rfl⟩
theorem d15_0 : decode jdk_42_method_54_code 0 = .ok (.aload_n 0, 1) := by decide +kernel
theorem d15_1 : decode jdk_42_method_54_code 1 = .ok (.getfield 9, 3) := by decide +kernel
theorem d15_4 : decode jdk_42_method_54_code 4 = .ok (.arraylength, 1) := by decide +kernel
theorem d15_5 : decode jdk_42_method_54_code 5 = .ok (.aload_n 0, 1) := by decide +kernel
theorem d15_6 : decode jdk_42_method_54_code 6 = .ok (.invokevirtual 335, 3) := by decide +kernel
theorem pd_93421976 : parseMethodDescriptor "()B" = some ⟨[], some .byte⟩ := by decide +kernel
theorem d15_9 : decode jdk_42_method_54_code 9 = .ok (.ishr, 1) := by decide +kernel
theorem d15_10 : decode jdk_42_method_54_code 10 = .ok (.ireturn, 1) := by decide +kernel
theorem pn_17394242 : plainFor (⟨"java/lang/String", "length", "()I"⟩ : MethodName) = true := by first | exact plainFor_of_name (by first | (simp [plainName, overriddenIn]; done) | decide +kernel) | decide +kernel
set_option maxRecDepth 65536 in
set_option maxHeartbeats 4000000 in
theorem ct_slen (G : Own.Gx) (hw : ∀ d ∈ tables_1, d.before G.a0 G.Z = true) (hC : Own.CSt G) {As : List Own.Ent} {Li : List Own.LitE} (a : Addr) (vs : List Value) (n : Int32) (ha : Own.StrIn G As a vs 0) (hn : vs.length.toInt32 = n) :
    Own.Ct G [] (⟨"java/lang/String", "length", "()I"⟩ : MethodName) jdk_42_method_54_code 1 (some .int) ({ frames := 1, cells := 0, slots := 0, locals := 13 } : Room) [.ref a] As Li (fun v A L => v = some (.int n) ∧ As = A ∧ Li = L) := by
  refine Own.Ct.intro pn_17394242 (Ls := [.val (.ref a)]) rfl rfl ?_
  intro K
  obtain ⟨ab, a1, a2, a3, a4⟩ := id ha
  refine Own.W.aloadN (pc := 0) d15_0 rfl rfl ?_
  refine Own.W.getI (pc := 1) (host := "") (Or.inl (hw _ (List.mem_of_getElem? (i := 32) rfl))) (Via.refl (O := "java/lang/String")) d15_1 a2 ?_
  refine Own.W.alen (pc := 4) d15_4 a4 hn ?_
  refine Own.W.aloadN (pc := 5) d15_5 rfl rfl ?_
  refine Own.W.callV (pc := 6) (ct_coder G hw hC a vs 0 rfl ha) d15_6 (C := "java/lang/String") ha.is (hw _ (List.mem_of_getElem? (i := 82) rfl)) (hw _ (List.mem_of_getElem? (i := 83) rfl)) (Own.nf_sel (hw _ (List.mem_of_getElem? (i := 85) rfl))) (hw _ (List.mem_of_getElem? (i := 85) rfl)) (hw _ (List.mem_of_getElem? (i := 84) rfl)) (hw _ (List.mem_of_getElem? (i := 7) rfl)) (hw _ (List.mem_of_getElem? (i := 86) rfl)) (by decide) pd_93421976 rfl rfl (Nat.le_of_ble_eq_true rfl) (Nat.le_of_ble_eq_true rfl) (Nat.le_of_ble_eq_true rfl) (Nat.le_of_ble_eq_true rfl) ?_
  rintro _ _ _ ⟨rfl, rfl, rfl⟩
  refine Own.W.ishr (pc := 9) d15_9 (z := n) (by rw [show ((0 : Int32) &&& 31) = 0 from by decide]; exact Own.shr0 n) ?_
  refine Own.W.iret (pc := 10) d15_10 rfl (by simp) rfl ?_ (Nat.le_of_ble_eq_true rfl) (Nat.le_of_ble_eq_true rfl)
  exact ⟨rfl, rfl, rfl⟩
theorem d31_0 : decode jdk_41_method_11_code 0 = .ok (.iload_n 0, 1) := by decide +kernel
theorem d31_1 : decode jdk_41_method_11_code 1 = .ok (.ifCond .lt 8, 3) := by decide +kernel
theorem d31_4 : decode jdk_41_method_11_code 4 = .ok (.iload_n 0, 1) := by decide +kernel
theorem d31_5 : decode jdk_41_method_11_code 5 = .ok (.iload_n 1, 1) := by decide +kernel
theorem d31_6 : decode jdk_41_method_11_code 6 = .ok (.if_icmp .lt 10, 3) := by decide +kernel
theorem d31_16 : decode jdk_41_method_11_code 16 = .ok (.iload_n 0, 1) := by decide +kernel
theorem d31_17 : decode jdk_41_method_11_code 17 = .ok (.ireturn, 1) := by decide +kernel
theorem pn_70520860 : plainFor (⟨"jdk/internal/util/Preconditions", "checkIndex", "(IILjava/util/function/BiFunction;)I"⟩ : MethodName) = true := by first | exact plainFor_of_name (by first | (simp [plainName, overriddenIn]; done) | decide +kernel) | decide +kernel
set_option maxRecDepth 65536 in
set_option maxHeartbeats 4000000 in
theorem ct_pci (G : Own.Gx) (hw : ∀ d ∈ tables_1, d.before G.a0 G.Z = true) {As : List Own.Ent} {Li : List Own.LitE} (i n : Int32) (f : Value) (hf : f.isRef = true) (hi0 : ¬ i < 0) (hi1 : i < n) :
    Own.Ct G [] (⟨"jdk/internal/util/Preconditions", "checkIndex", "(IILjava/util/function/BiFunction;)I"⟩ : MethodName) jdk_41_method_11_code 3 (some .int) ({ frames := 0, cells := 0, slots := 0, locals := 0 } : Room) [.int i, .int n, f] As Li (fun v A L => v = some (.int i) ∧ As = A ∧ Li = L) := by
  refine Own.Ct.intro pn_70520860 (Ls := [.val (.int i), .val (.int n), .val (f)]) (by rcases ref_cases hf with rfl | ⟨_, rfl⟩ <;> rfl) rfl ?_
  intro K
  refine Own.W.iloadN (pc := 0) d31_0 rfl ?_
  refine Own.W.if_lt (pc := 1) 9 d31_1 (by decide) (by decide) (fun h1 => absurd h1 hi0) ?_
  intro h1
  refine Own.W.iloadN (pc := 4) d31_4 rfl ?_
  refine Own.W.iloadN (pc := 5) d31_5 rfl ?_
  refine Own.W.ic_lt (pc := 6) 16 d31_6 (by decide) (by decide) ?_ (fun h6 => absurd h6 (fun q => q hi1))
  intro h6
  refine Own.W.iloadN (pc := 16) d31_16 rfl ?_
  refine Own.W.iret (pc := 17) d31_17 rfl (by simp) rfl ?_ (Nat.le_of_ble_eq_true rfl) (Nat.le_of_ble_eq_true rfl)
  exact ⟨rfl, rfl, rfl⟩
theorem d38_0 : decode jdk_42_method_155_code 0 = .ok (.iload_n 0, 1) := by decide +kernel
theorem d38_1 : decode jdk_42_method_155_code 1 = .ok (.iload_n 1, 1) := by decide +kernel
theorem d38_2 : decode jdk_42_method_155_code 2 = .ok (.getstatic 1053, 3) := by decide +kernel
theorem d38_5 : decode jdk_42_method_155_code 5 = .ok (.invokestatic 1059, 3) := by decide +kernel
theorem pd_25485788 : parseMethodDescriptor "(IILjava/util/function/BiFunction;)I" = some ⟨[.int, .int, (.object "java/util/function/BiFunction")], some .int⟩ := by decide +kernel
theorem d38_8 : decode jdk_42_method_155_code 8 = .ok (.pop, 1) := by decide +kernel
theorem d38_9 : decode jdk_42_method_155_code 9 = .ok (.return_, 1) := by decide +kernel
theorem pn_41363637 : plainFor (⟨"java/lang/String", "checkIndex", "(II)V"⟩ : MethodName) = true := by first | exact plainFor_of_name (by first | (simp [plainName, overriddenIn]; done) | decide +kernel) | decide +kernel
set_option maxRecDepth 65536 in
set_option maxHeartbeats 4000000 in
theorem ct_sci (G : Own.Gx) (hw : ∀ d ∈ tables_1, d.before G.a0 G.Z = true) (hF : ∃ f : Value, Sta G.Z G.Z.heap "jdk/internal/util/Preconditions" "SIOOBE_FORMATTER" "Ljava/util/function/BiFunction;" f ∧ f.isRef = true) {As : List Own.Ent} {Li : List Own.LitE} (i n : Int32) (h0 : ¬ i < 0) (h1 : i < n) :
    Own.Ct G [] (⟨"java/lang/String", "checkIndex", "(II)V"⟩ : MethodName) jdk_42_method_155_code 2 none ({ frames := 1, cells := 0, slots := 0, locals := 14 } : Room) [.int i, .int n] As Li (fun v A L => v = none ∧ As = A ∧ Li = L) := by
  refine Own.Ct.intro pn_41363637 (Ls := [.val (.int i), .val (.int n)]) rfl rfl ?_
  intro K
  obtain ⟨f, hF1, hF2⟩ := hF
  refine Own.W.iloadN (pc := 0) d38_0 rfl ?_
  refine Own.W.iloadN (pc := 1) d38_1 rfl ?_
  refine Own.W.getS (pc := 2) (host := "") (Or.inl (hw _ (List.mem_of_getElem? (i := 210) rfl))) (Via.refl (O := "jdk/internal/util/Preconditions")) d38_2 hF1 ?_
  refine Own.W.callS (pc := 5) (ct_pci G hw i n f hF2 h0 h1) d38_5 (hw _ (List.mem_of_getElem? (i := 211) rfl)) (hw _ (List.mem_of_getElem? (i := 176) rfl)) (hw _ (List.mem_of_getElem? (i := 177) rfl)) (hw _ (List.mem_of_getElem? (i := 178) rfl)) (by decide) pd_25485788 rfl rfl (Nat.le_of_ble_eq_true rfl) (Nat.le_of_ble_eq_true rfl) (Nat.le_of_ble_eq_true rfl) (Nat.le_of_ble_eq_true rfl) ?_
  rintro _ _ _ ⟨rfl, rfl, rfl⟩
  refine Own.W.pop (pc := 8) d38_8 rfl ?_
  refine Own.W.vret (pc := 9) d38_9 rfl ?_ (Nat.le_of_ble_eq_true rfl) (Nat.le_of_ble_eq_true rfl)
  exact ⟨rfl, rfl, rfl⟩
theorem d37_0 : decode jdk_43_method_2_code 0 = .ok (.iload_n 1, 1) := by decide +kernel
theorem d37_1 : decode jdk_43_method_2_code 1 = .ok (.aload_n 0, 1) := by decide +kernel
theorem d37_2 : decode jdk_43_method_2_code 2 = .ok (.arraylength, 1) := by decide +kernel
theorem d37_3 : decode jdk_43_method_2_code 3 = .ok (.invokestatic 9, 3) := by decide +kernel
theorem pd_84293406 : parseMethodDescriptor "(II)V" = some ⟨[.int, .int], none⟩ := by decide +kernel
theorem d37_6 : decode jdk_43_method_2_code 6 = .ok (.aload_n 0, 1) := by decide +kernel
theorem d37_7 : decode jdk_43_method_2_code 7 = .ok (.iload_n 1, 1) := by decide +kernel
theorem d37_8 : decode jdk_43_method_2_code 8 = .ok (.baload, 1) := by decide +kernel
theorem d37_9 : decode jdk_43_method_2_code 9 = .ok (.sipush 255, 3) := by decide +kernel
theorem d37_12 : decode jdk_43_method_2_code 12 = .ok (.iand, 1) := by decide +kernel
theorem d37_13 : decode jdk_43_method_2_code 13 = .ok (.i2c, 1) := by decide +kernel
theorem d37_14 : decode jdk_43_method_2_code 14 = .ok (.ireturn, 1) := by decide +kernel
theorem pn_50501020 : plainFor (⟨"java/lang/StringLatin1", "charAt", "([BI)C"⟩ : MethodName) = true := by first | exact plainFor_of_name (by first | (simp [plainName, overriddenIn]; done) | decide +kernel) | decide +kernel
set_option maxRecDepth 65536 in
set_option maxHeartbeats 4000000 in
theorem ct_lca (G : Own.Gx) (hw : ∀ d ∈ tables_1, d.before G.a0 G.Z = true) (hF : ∃ f : Value, Sta G.Z G.Z.heap "jdk/internal/util/Preconditions" "SIOOBE_FORMATTER" "Ljava/util/function/BiFunction;" f ∧ f.isRef = true) {As : List Own.Ent} {Li : List Own.LitE} (b : Addr) (xs : List Int32) (k : Nat) (hx : xs.length < 2147483648) (hk : k < xs.length) (hb : Own.AVin G As b .byte (xs.map Value.int)) :
    Own.Ct G [] (⟨"java/lang/StringLatin1", "charAt", "([BI)C"⟩ : MethodName) jdk_43_method_2_code 2 (some .char) ({ frames := 2, cells := 0, slots := 0, locals := 27 } : Room) [.ref b, .int k.toInt32] As Li (fun v A L => v = some (.int (xs[k] &&& 255)) ∧ As = A ∧ Li = L) := by
  refine Own.Ct.intro pn_50501020 (Ls := [.val (.ref b), .val (.int k.toInt32)]) rfl rfl ?_
  intro K
  refine Own.W.iloadN (pc := 0) d37_0 rfl ?_
  refine Own.W.aloadN (pc := 1) d37_1 rfl rfl ?_
  refine Own.W.alen (pc := 2) d37_2 hb (z := xs.length.toInt32) (by simp) ?_
  refine Own.W.callS (pc := 3) (ct_sci G hw hF k.toInt32 _ (Own.n_nn (by omega)) (Own.n_lt hk hx)) d37_3 (hw _ (List.mem_of_getElem? (i := 207) rfl)) (hw _ (List.mem_of_getElem? (i := 208) rfl)) (hw _ (List.mem_of_getElem? (i := 7) rfl)) (hw _ (List.mem_of_getElem? (i := 209) rfl)) (by decide) pd_84293406 rfl rfl (Nat.le_of_ble_eq_true rfl) (Nat.le_of_ble_eq_true rfl) (Nat.le_of_ble_eq_true rfl) (Nat.le_of_ble_eq_true rfl) ?_
  rintro _ _ _ ⟨rfl, rfl, rfl⟩
  refine Own.W.aloadN (pc := 6) d37_6 rfl rfl ?_
  refine Own.W.iloadN (pc := 7) d37_7 rfl ?_
  refine Own.W.baload (pc := 8) d37_8 hb (Own.n_nn (by omega)) (v := .int xs[k]) (by rw [Own.n_clamp (by omega)]; simp [hk]) ?_
  refine Own.W.sipush (pc := 9) (z := (255 : Int32)) d37_9 (by decide) ?_
  refine Own.W.iand (pc := 12) d37_12 rfl ?_
  refine Own.W.i2c (pc := 13) d37_13 (i2c_mask _) ?_
  refine Own.W.iret (pc := 14) d37_14 rfl (by simp) (congrArg Value.int (i2c_mask _)) ?_ (Nat.le_of_ble_eq_true rfl) (Nat.le_of_ble_eq_true rfl)
  exact ⟨rfl, rfl, rfl⟩
theorem d14_0 : decode jdk_42_method_154_code 0 = .ok (.getstatic 38, 3) := by decide +kernel
theorem d14_3 : decode jdk_42_method_154_code 3 = .ok (.ifCond .eq 14, 3) := by decide +kernel
theorem d14_6 : decode jdk_42_method_154_code 6 = .ok (.aload_n 0, 1) := by decide +kernel
theorem d14_7 : decode jdk_42_method_154_code 7 = .ok (.getfield 15, 3) := by decide +kernel
theorem d14_10 : decode jdk_42_method_154_code 10 = .ok (.ifCond .ne 7, 3) := by decide +kernel
theorem d14_13 : decode jdk_42_method_154_code 13 = .ok (.iconst 1, 1) := by decide +kernel
theorem d14_14 : decode jdk_42_method_154_code 14 = .ok (.goto 4, 3) := by decide +kernel
theorem d14_18 : decode jdk_42_method_154_code 18 = .ok (.ireturn, 1) := by decide +kernel
theorem pn_40431734 : plainFor (⟨"java/lang/String", "isLatin1", "()Z"⟩ : MethodName) = true := by first | exact plainFor_of_name (by first | (simp [plainName, overriddenIn]; done) | decide +kernel) | decide +kernel
set_option maxRecDepth 65536 in
set_option maxHeartbeats 4000000 in
theorem ct_isl (G : Own.Gx) (hw : ∀ d ∈ tables_1, d.before G.a0 G.Z = true) (hC : Own.CSt G) {As : List Own.Ent} {Li : List Own.LitE} (a : Addr) (vs : List Value) (ha : Own.StrIn G As a vs 0) :
    Own.Ct G [] (⟨"java/lang/String", "isLatin1", "()Z"⟩ : MethodName) jdk_42_method_154_code 1 (some .boolean) ({ frames := 0, cells := 0, slots := 0, locals := 0 } : Room) [.ref a] As Li (fun v A L => v = some (.int 1) ∧ As = A ∧ Li = L) := by
  refine Own.Ct.intro pn_40431734 (Ls := [.val (.ref a)]) rfl rfl ?_
  intro K
  obtain ⟨cz, hC1, hC2⟩ := hC
  obtain ⟨ab, a1, a2, a3, a4⟩ := ha
  refine Own.W.getS (pc := 0) (host := "") (Or.inl (hw _ (List.mem_of_getElem? (i := 18) rfl))) (Via.refl (O := "java/lang/String")) d14_0 hC1 ?_
  refine Own.W.if_eq (pc := 3) 17 d14_3 (by decide) (by decide) (fun h3 => absurd h3 hC2) ?_
  intro h3
  refine Own.W.aloadN (pc := 6) d14_6 rfl rfl ?_
  refine Own.W.getI (pc := 7) (host := "") (Or.inl (hw _ (List.mem_of_getElem? (i := 30) rfl))) (Via.refl (O := "java/lang/String")) d14_7 a3 ?_
  refine Own.W.if_ne (pc := 10) 17 d14_10 (by decide) (by decide) (fun h10 => absurd h10 (fun q => q rfl)) ?_
  intro h10
  refine Own.W.iconst (pc := 13) (z := (1 : Int32)) d14_13 (by decide) ?_
  refine Own.W.goto (pc := 14) 18 d14_14 (by decide) (by decide) ?_
  refine Own.W.iret (pc := 18) d14_18 rfl (by simp) (by first | rfl | decide) ?_ (Nat.le_of_ble_eq_true rfl) (Nat.le_of_ble_eq_true rfl)
  exact ⟨rfl, rfl, rfl⟩
theorem d36_0 : decode jdk_42_method_56_code 0 = .ok (.aload_n 0, 1) := by decide +kernel
theorem d36_1 : decode jdk_42_method_56_code 1 = .ok (.invokevirtual 492, 3) := by decide +kernel
theorem pd_93422000 : parseMethodDescriptor "()Z" = some ⟨[], some .boolean⟩ := by decide +kernel
theorem d36_4 : decode jdk_42_method_56_code 4 = .ok (.ifCond .eq 12, 3) := by decide +kernel
theorem d36_7 : decode jdk_42_method_56_code 7 = .ok (.aload_n 0, 1) := by decide +kernel
theorem d36_8 : decode jdk_42_method_56_code 8 = .ok (.getfield 9, 3) := by decide +kernel
theorem d36_11 : decode jdk_42_method_56_code 11 = .ok (.iload_n 1, 1) := by decide +kernel
theorem d36_12 : decode jdk_42_method_56_code 12 = .ok (.invokestatic 495, 3) := by decide +kernel
theorem pd_7843551 : parseMethodDescriptor "([BI)C" = some ⟨[(.array .byte), .int], some .char⟩ := by decide +kernel
theorem d36_15 : decode jdk_42_method_56_code 15 = .ok (.ireturn, 1) := by decide +kernel
theorem pn_55344022 : plainFor (⟨"java/lang/String", "charAt", "(I)C"⟩ : MethodName) = true := by first | exact plainFor_of_name (by first | (simp [plainName, overriddenIn]; done) | decide +kernel) | decide +kernel
set_option maxRecDepth 65536 in
set_option maxHeartbeats 4000000 in
theorem ct_cha (G : Own.Gx) (hw : ∀ d ∈ tables_1, d.before G.a0 G.Z = true) (hC : Own.CSt G) (hF : ∃ f : Value, Sta G.Z G.Z.heap "jdk/internal/util/Preconditions" "SIOOBE_FORMATTER" "Ljava/util/function/BiFunction;" f ∧ f.isRef = true) {As : List Own.Ent} {Li : List Own.LitE} (a : Addr) (xs : List Int32) (k : Nat) (hx : xs.length < 2147483648) (hk : k < xs.length) (ha : Own.StrIn G As a (xs.map Value.int) 0) :
    Own.Ct G [] (⟨"java/lang/String", "charAt", "(I)C"⟩ : MethodName) jdk_42_method_56_code 2 (some .char) ({ frames := 3, cells := 0, slots := 0, locals := 40 } : Room) [.ref a, .int k.toInt32] As Li (fun v A L => v = some (.int (xs[k] &&& 255)) ∧ As = A ∧ Li = L) := by
  refine Own.Ct.intro pn_55344022 (Ls := [.val (.ref a), .val (.int k.toInt32)]) rfl rfl ?_
  intro K
  obtain ⟨ab, a1, a2, a3, a4⟩ := id ha
  refine Own.W.aloadN (pc := 0) d36_0 rfl rfl ?_
  refine Own.W.callV (pc := 1) (ct_isl G hw hC a _ ha) d36_1 (C := "java/lang/String") ha.is (hw _ (List.mem_of_getElem? (i := 72) rfl)) (hw _ (List.mem_of_getElem? (i := 73) rfl)) (Own.nf_sel (hw _ (List.mem_of_getElem? (i := 75) rfl))) (hw _ (List.mem_of_getElem? (i := 75) rfl)) (hw _ (List.mem_of_getElem? (i := 74) rfl)) (hw _ (List.mem_of_getElem? (i := 7) rfl)) (hw _ (List.mem_of_getElem? (i := 76) rfl)) (by decide) pd_93422000 rfl rfl (Nat.le_of_ble_eq_true rfl) (Nat.le_of_ble_eq_true rfl) (Nat.le_of_ble_eq_true rfl) (Nat.le_of_ble_eq_true rfl) ?_
  rintro _ _ _ ⟨rfl, rfl, rfl⟩
  refine Own.W.if_eq (pc := 4) 16 d36_4 (by decide) (by decide) (fun h4 => absurd h4 (by decide)) ?_
  intro h4
  refine Own.W.aloadN (pc := 7) d36_7 rfl rfl ?_
  refine Own.W.getI (pc := 8) (host := "") (Or.inl (hw _ (List.mem_of_getElem? (i := 32) rfl))) (Via.refl (O := "java/lang/String")) d36_8 a2 ?_
  refine Own.W.iloadN (pc := 11) d36_11 rfl ?_
  refine Own.W.callS (pc := 12) (ct_lca G hw hF ab xs k hx hk a4) d36_12 (hw _ (List.mem_of_getElem? (i := 204) rfl)) (hw _ (List.mem_of_getElem? (i := 205) rfl)) (hw _ (List.mem_of_getElem? (i := 89) rfl)) (hw _ (List.mem_of_getElem? (i := 206) rfl)) (by decide) pd_7843551 rfl rfl (Nat.le_of_ble_eq_true rfl) (Nat.le_of_ble_eq_true rfl) (Nat.le_of_ble_eq_true rfl) (Nat.le_of_ble_eq_true rfl) ?_
  rintro _ _ _ ⟨rfl, rfl, rfl⟩
  refine Own.W.iret (pc := 15) d36_15 rfl (by simp) (congrArg Value.int (i2c_mask _)) ?_ (Nat.le_of_ble_eq_true rfl) (Nat.le_of_ble_eq_true rfl)
  exact ⟨rfl, rfl, rfl⟩
def F_com_example_stairwell_stairwell_sql_UrlParameter : List Own.Fd := [("com/example/stairwell/stairwell/sql/UrlParameter", "start", "I"), ("com/example/stairwell/stairwell/sql/UrlParameter", "equals", "I"), ("com/example/stairwell/stairwell/sql/UrlParameter", "end", "I")]
theorem LF_com_example_stairwell_stairwell_sql_UrlParameter (G : Own.Gx) (hw : ∀ d ∈ tables_1, d.before G.a0 G.Z = true) : Own.LaidAll G.Z G.a0 "com/example/stairwell/stairwell/sql/UrlParameter" F_com_example_stairwell_stairwell_sql_UrlParameter := ⟨by decide, Own.LaidAll.cons (Or.inr (hw _ (List.mem_of_getElem? (i := 118) rfl))) (t := .int) (by decide) (Own.LaidAll.cons (Or.inr (hw _ (List.mem_of_getElem? (i := 120) rfl))) (t := .int) (by decide) (Own.LaidAll.cons (Or.inr (hw _ (List.mem_of_getElem? (i := 122) rfl))) (t := .int) (by decide) (Own.LaidAll.nil)))⟩
def F_java_util_ArrayList : List Own.Fd := [("java/util/AbstractList", "modCount", "I"), ("java/util/ArrayList", "elementData", "[Ljava/lang/Object;"), ("java/util/ArrayList", "size", "I")]
theorem LF_java_util_ArrayList (G : Own.Gx) (hw : ∀ d ∈ tables_1, d.before G.a0 G.Z = true) : Own.LaidAll G.Z G.a0 "java/util/ArrayList" F_java_util_ArrayList := ⟨by decide, Own.LaidAll.cons (Or.inl (hw _ (List.mem_of_getElem? (i := 58) rfl))) (t := .int) (by decide) (Own.LaidAll.cons (Or.inl (hw _ (List.mem_of_getElem? (i := 61) rfl))) (t := (.array (.object "java/lang/Object"))) (by decide) (Own.LaidAll.cons (Or.inl (hw _ (List.mem_of_getElem? (i := 135) rfl))) (t := .int) (by decide) (Own.LaidAll.nil)))⟩
abbrev ush (x k : Int32) : Int32 := (x.toUInt32 >>> (k &&& 31).toUInt32).toInt32
theorem own_ch {x : Int32} (h : x &&& 255 = x) : ¬ (255 : Int32) < x := by
  have q := c_mask x 255 8 (by decide) (by decide)
  rw [h] at q
  rw [Int32.lt_iff_toInt_lt, q]
  have h2 : (255 : Int32).toInt = 255 := rfl
  omega
theorem own_id (x : Int32) : (x &&& 255) &&& 255 = x &&& 255 := by
  have q := c_mask x 255 8 (by decide) (by decide)
  have r := c_mask (x &&& 255) 255 8 (by decide) (by decide)
  exact Int32.toInt_inj.mp (by omega)
theorem own_back {x : Int32} (h : x &&& 255 = x) : x.toInt8.toInt32 &&& 255 = x := by
  have q := c_mask x 255 8 (by decide) (by decide)
  have r := c_mask x.toInt8.toInt32 255 8 (by decide) (by decide)
  have b := (c_i2b x).1
  rw [h] at q
  exact Int32.toInt_inj.mp (by omega)
theorem own_nar {x : Int32} (h : x &&& 255 = x) : nar .char x = x := by rw [← h]; exact i2c_mask x
abbrev own_by (cs : List Int32) : List Int32 := cs.map fun z => z.toInt8.toInt32
theorem own_by_map (cs : List Int32) : cs.map Own.byt = (own_by cs).map Value.int := by simp [own_by, List.map_map, Function.comp_def]
def own_ix (z : Int32) : List Int32 → Nat → Option Nat
  | [], _ => none
  | x :: r, k => if x = z then some k else own_ix z r (k + 1)
def own_iz : Option Nat → Int32
  | some k => k.toInt32
  | none => -1
theorem own_iz_nar (o : Option Nat) : True := trivial
theorem d21_0 : decode jdk_43_method_23_code 0 = .ok (.iload_n 1, 1) := by decide +kernel
theorem d21_1 : decode jdk_43_method_23_code 1 = .ok (.i2b, 1) := by decide +kernel
theorem d21_2 : decode jdk_43_method_23_code 2 = .ok (.istore 4, 2) := by decide +kernel
theorem d21_4 : decode jdk_43_method_23_code 4 = .ok (.iload_n 2, 1) := by decide +kernel
theorem d21_5 : decode jdk_43_method_23_code 5 = .ok (.istore 5, 2) := by decide +kernel
theorem d21_7 : decode jdk_43_method_23_code 7 = .ok (.iload 5, 2) := by decide +kernel
theorem d21_9 : decode jdk_43_method_23_code 9 = .ok (.iload_n 3, 1) := by decide +kernel
theorem d21_10 : decode jdk_43_method_23_code 10 = .ok (.if_icmp .ge 21, 3) := by decide +kernel
theorem d21_31 : decode jdk_43_method_23_code 31 = .ok (.iconst (-1), 1) := by decide +kernel
theorem d21_32 : decode jdk_43_method_23_code 32 = .ok (.ireturn, 1) := by decide +kernel
theorem d21_13 : decode jdk_43_method_23_code 13 = .ok (.aload_n 0, 1) := by decide +kernel
theorem d21_14 : decode jdk_43_method_23_code 14 = .ok (.iload 5, 2) := by decide +kernel
theorem d21_16 : decode jdk_43_method_23_code 16 = .ok (.baload, 1) := by decide +kernel
theorem d21_17 : decode jdk_43_method_23_code 17 = .ok (.iload 4, 2) := by decide +kernel
theorem d21_19 : decode jdk_43_method_23_code 19 = .ok (.if_icmp .ne 6, 3) := by decide +kernel
theorem d21_25 : decode jdk_43_method_23_code 25 = .ok (.iinc 5 1, 3) := by decide +kernel
theorem d21_28 : decode jdk_43_method_23_code 28 = .ok (.goto (-21), 3) := by decide +kernel
theorem d21_22 : decode jdk_43_method_23_code 22 = .ok (.iload 5, 2) := by decide +kernel
theorem d21_24 : decode jdk_43_method_23_code 24 = .ok (.ireturn, 1) := by decide +kernel
theorem pn_18105100 : plainFor (⟨"java/lang/StringLatin1", "indexOfChar", "([BIII)I"⟩ : MethodName) = true := by first | exact plainFor_of_name (by first | (simp [plainName, overriddenIn]; done) | decide +kernel) | decide +kernel
set_option maxRecDepth 65536 in
set_option maxHeartbeats 4000000 in
theorem ct_ioc (G : Own.Gx) (hw : ∀ d ∈ tables_1, d.before G.a0 G.Z = true) {As : List Own.Ent} {Li : List Own.LitE} (b : Addr) (xs : List Int32) (hx : xs.length < 2147483648) (z : Int32) (from_ : Nat) (hz : z.toInt8.toInt32 = z) (hfr : from_ ≤ xs.length) (hb : Own.AVin G As b .byte (xs.map Value.int)) :
    Own.Ct G [] (⟨"java/lang/StringLatin1", "indexOfChar", "([BIII)I"⟩ : MethodName) jdk_43_method_23_code 6 (some .int) ({ frames := 0, cells := 0, slots := 0, locals := 0 } : Room) [.ref b, .int z, .int from_.toInt32, .int xs.length.toInt32] As Li (fun v A L => v = some (.int (own_iz (own_ix z (xs.drop from_) from_))) ∧ As = A ∧ Li = L) := by
  refine Own.Ct.intro pn_18105100 (Ls := [.val (.ref b), .val (.int z), .val (.int from_.toInt32), .val (.int xs.length.toInt32), .unset, .unset]) rfl rfl ?_
  intro K
  have hz8 : z.toInt8.toInt32 = z := hz
  refine Own.W.iloadN (pc := 0) d21_0 rfl ?_
  refine Own.W.i2b (pc := 1) d21_1 (z := z) hz ?_
  refine Own.W.istore (pc := 2) (Ls' := [_, _, _, _, _, _]) d21_2 rfl rfl ?_
  refine Own.W.iloadN (pc := 4) d21_4 rfl ?_
  refine Own.W.istore (pc := 5) (Ls' := [_, _, _, _, _, _]) d21_5 rfl rfl ?_
  suffices loop : ∀ (m k : Nat), k + m = xs.length → own_ix z (xs.drop k) k = own_ix z (xs.drop from_) from_ → Own.W G K (⟨"java/lang/StringLatin1", "indexOfChar", "([BIII)I"⟩ : MethodName) jdk_43_method_23_code (some .int) ({ frames := 0, cells := 0, slots := 0, locals := 0 } : Room) (fun v A L => v = some (.int (own_iz (own_ix z (xs.drop from_) from_))) ∧ As = A ∧ Li = L) As Li 0 0 7 [.val (.ref b), .val (.int z), .val (.int from_.toInt32), .val (.int xs.length.toInt32), .val (.int z), .val (.int k.toInt32)] [] from
    loop (xs.length - from_) from_ (by omega) rfl
  intro m
  induction m with
  | zero =>
    intro k hk hr
    obtain rfl : k = xs.length := by omega
    refine Own.W.iload (pc := 7) d21_7 rfl ?_
    refine Own.W.iloadN (pc := 9) d21_9 rfl ?_
    refine Own.W.ic_ge (pc := 10) 31 d21_10 (by decide) (by decide) ?_ (fun h10 => absurd h10 (Own.n_nlt (Nat.le_refl _) hx))
    intro h10
    refine Own.W.iconst (pc := 31) (z := (-1 : Int32)) d21_31 (by decide) ?_
    refine Own.W.iret (pc := 32) d21_32 rfl (by simp) rfl ?_ (Nat.le_of_ble_eq_true rfl) (Nat.le_of_ble_eq_true rfl)
    exact ⟨by rw [← hr, List.drop_length]; rfl, rfl, rfl⟩
  | succ m ih =>
    intro k hk hr
    have hkx : k < xs.length := by omega
    refine Own.W.iload (pc := 7) d21_7 rfl ?_
    refine Own.W.iloadN (pc := 9) d21_9 rfl ?_
    refine Own.W.ic_ge (pc := 10) 31 d21_10 (by decide) (by decide) (fun h10 => absurd h10 (fun q => q (Own.n_lt hkx hx))) ?_
    intro h10
    refine Own.W.aloadN (pc := 13) d21_13 rfl rfl ?_
    refine Own.W.iload (pc := 14) d21_14 rfl ?_
    refine Own.W.baload (pc := 16) d21_16 hb (Own.n_nn (by omega)) (v := .int xs[k]) (by rw [Own.n_clamp (by omega)]; simp [hkx]) ?_
    refine Own.W.iload (pc := 17) d21_17 rfl ?_
    refine Own.W.ic_ne (pc := 19) 25 d21_19 (by decide) (by decide) ?_ ?_
    · intro h19
      refine Own.W.iinc (pc := 25) (z := (1 : Int32)) (Ls' := [_, _, _, _, _, _]) d21_25 rfl (by decide) rfl rfl ?_
      refine Own.W.goto (pc := 28) 7 d21_28 (by decide) (by decide) ?_
      have ih' := ih (k + 1) (by omega) (by rw [← hr, List.drop_eq_getElem_cons hkx, own_ix, if_neg h19])
      rw [← Own.n_succ] at ih'
      exact ih'
    · intro h19
      refine Own.W.iload (pc := 22) d21_22 rfl ?_
      refine Own.W.iret (pc := 24) d21_24 rfl (by simp) rfl ?_ (Nat.le_of_ble_eq_true rfl) (Nat.le_of_ble_eq_true rfl)
      exact ⟨by rw [← hr, List.drop_eq_getElem_cons hkx, own_ix, if_pos h19]; rfl, rfl, rfl⟩
theorem d18_0 : decode jdk_43_method_4_code 0 = .ok (.iload_n 0, 1) := by decide +kernel
theorem d18_1 : decode jdk_43_method_4_code 1 = .ok (.ifCond .lt 14, 3) := by decide +kernel
theorem d18_4 : decode jdk_43_method_4_code 4 = .ok (.iload_n 0, 1) := by decide +kernel
theorem d18_5 : decode jdk_43_method_4_code 5 = .ok (.sipush 255, 3) := by decide +kernel
theorem d18_8 : decode jdk_43_method_4_code 8 = .ok (.if_icmp .gt 7, 3) := by decide +kernel
theorem d18_11 : decode jdk_43_method_4_code 11 = .ok (.iconst 1, 1) := by decide +kernel
theorem d18_12 : decode jdk_43_method_4_code 12 = .ok (.goto 4, 3) := by decide +kernel
theorem d18_16 : decode jdk_43_method_4_code 16 = .ok (.ireturn, 1) := by decide +kernel
theorem pn_7307907 : plainFor (⟨"java/lang/StringLatin1", "canEncode", "(I)Z"⟩ : MethodName) = true := by first | exact plainFor_of_name (by first | (simp [plainName, overriddenIn]; done) | decide +kernel) | decide +kernel
set_option maxRecDepth 65536 in
set_option maxHeartbeats 4000000 in
theorem ct_ceni (G : Own.Gx) (hw : ∀ d ∈ tables_1, d.before G.a0 G.Z = true) {As : List Own.Ent} {Li : List Own.LitE} (z : Int32) (hz0 : ¬ z < 0) (hz : ¬ (255 : Int32) < z) :
    Own.Ct G [] (⟨"java/lang/StringLatin1", "canEncode", "(I)Z"⟩ : MethodName) jdk_43_method_4_code 1 (some .boolean) ({ frames := 0, cells := 0, slots := 0, locals := 0 } : Room) [.int z] As Li (fun v A L => v = some (.int 1) ∧ As = A ∧ Li = L) := by
  refine Own.Ct.intro pn_7307907 (Ls := [.val (.int z)]) rfl rfl ?_
  intro K
  refine Own.W.iloadN (pc := 0) d18_0 rfl ?_
  refine Own.W.if_lt (pc := 1) 15 d18_1 (by decide) (by decide) (fun h1 => absurd h1 hz0) ?_
  intro h1
  refine Own.W.iloadN (pc := 4) d18_4 rfl ?_
  refine Own.W.sipush (pc := 5) (z := (255 : Int32)) d18_5 (by decide) ?_
  refine Own.W.ic_gt (pc := 8) 15 d18_8 (by decide) (by decide) (fun h8 => absurd h8 hz) ?_
  intro h8
  refine Own.W.iconst (pc := 11) (z := (1 : Int32)) d18_11 (by decide) ?_
  refine Own.W.goto (pc := 12) 16 d18_12 (by decide) (by decide) ?_
  refine Own.W.iret (pc := 16) d18_16 rfl (by simp) (by first | rfl | decide) ?_ (Nat.le_of_ble_eq_true rfl) (Nat.le_of_ble_eq_true rfl)
  exact ⟨rfl, rfl, rfl⟩
theorem d17_0 : decode jdk_43_method_22_code 0 = .ok (.iload_n 1, 1) := by decide +kernel
theorem d17_1 : decode jdk_43_method_22_code 1 = .ok (.invokestatic 88, 3) := by decide +kernel
theorem pd_87992025 : parseMethodDescriptor "(I)Z" = some ⟨[.int], some .boolean⟩ := by decide +kernel
theorem d17_4 : decode jdk_43_method_22_code 4 = .ok (.ifCond .ne 5, 3) := by decide +kernel
theorem d17_9 : decode jdk_43_method_22_code 9 = .ok (.iload_n 2, 1) := by decide +kernel
theorem d17_10 : decode jdk_43_method_22_code 10 = .ok (.iconst 0, 1) := by decide +kernel
theorem d17_11 : decode jdk_43_method_22_code 11 = .ok (.invokestatic 92, 3) := by decide +kernel
theorem pd_84293393 : parseMethodDescriptor "(II)I" = some ⟨[.int, .int], some .int⟩ := by decide +kernel
theorem d17_14 : decode jdk_43_method_22_code 14 = .ok (.istore_n 2, 1) := by decide +kernel
theorem d17_15 : decode jdk_43_method_22_code 15 = .ok (.iload_n 3, 1) := by decide +kernel
theorem d17_16 : decode jdk_43_method_22_code 16 = .ok (.aload_n 0, 1) := by decide +kernel
theorem d17_17 : decode jdk_43_method_22_code 17 = .ok (.arraylength, 1) := by decide +kernel
theorem d17_18 : decode jdk_43_method_22_code 18 = .ok (.invokestatic 38, 3) := by decide +kernel
theorem d17_21 : decode jdk_43_method_22_code 21 = .ok (.istore_n 3, 1) := by decide +kernel
theorem d17_22 : decode jdk_43_method_22_code 22 = .ok (.iload_n 2, 1) := by decide +kernel
theorem d17_23 : decode jdk_43_method_22_code 23 = .ok (.iload_n 3, 1) := by decide +kernel
theorem d17_24 : decode jdk_43_method_22_code 24 = .ok (.if_icmp .lt 5, 3) := by decide +kernel
theorem d17_29 : decode jdk_43_method_22_code 29 = .ok (.aload_n 0, 1) := by decide +kernel
theorem d17_30 : decode jdk_43_method_22_code 30 = .ok (.iload_n 1, 1) := by decide +kernel
theorem d17_31 : decode jdk_43_method_22_code 31 = .ok (.iload_n 2, 1) := by decide +kernel
theorem d17_32 : decode jdk_43_method_22_code 32 = .ok (.iload_n 3, 1) := by decide +kernel
theorem d17_33 : decode jdk_43_method_22_code 33 = .ok (.invokestatic 95, 3) := by decide +kernel
theorem pd_47763415 : parseMethodDescriptor "([BIII)I" = some ⟨[(.array .byte), .int, .int, .int], some .int⟩ := by decide +kernel
theorem d17_36 : decode jdk_43_method_22_code 36 = .ok (.ireturn, 1) := by decide +kernel
theorem d17_27 : decode jdk_43_method_22_code 27 = .ok (.iconst (-1), 1) := by decide +kernel
theorem d17_28 : decode jdk_43_method_22_code 28 = .ok (.ireturn, 1) := by decide +kernel
theorem pn_739982 : plainFor (⟨"java/lang/StringLatin1", "indexOf", "([BIII)I"⟩ : MethodName) = true := by first | exact plainFor_of_name (by first | (simp [plainName, overriddenIn]; done) | decide +kernel) | decide +kernel
set_option maxRecDepth 65536 in
set_option maxHeartbeats 4000000 in
theorem ct_io (G : Own.Gx) (hw : ∀ d ∈ tables_1, d.before G.a0 G.Z = true) {As : List Own.Ent} {Li : List Own.LitE} (b : Addr) (xs : List Int32) (hx : xs.length < 2147483648) (z : Int32) (from_ : Nat) (hz : z.toInt8.toInt32 = z) (hz0 : ¬ z < 0) (hz2 : ¬ (255 : Int32) < z) (hf : from_ < 2147483648) (hb : Own.AVin G As b .byte (xs.map Value.int)) :
    Own.Ct G [] (⟨"java/lang/StringLatin1", "indexOf", "([BIII)I"⟩ : MethodName) jdk_43_method_22_code 4 (some .int) ({ frames := 1, cells := 0, slots := 0, locals := 17 } : Room) [.ref b, .int z, .int from_.toInt32, .int xs.length.toInt32] As Li (fun v A L => v = some (.int (own_iz (own_ix z (xs.drop from_) from_))) ∧ As = A ∧ Li = L) := by
  refine Own.Ct.intro pn_739982 (Ls := [.val (.ref b), .val (.int z), .val (.int from_.toInt32), .val (.int xs.length.toInt32)]) rfl rfl ?_
  intro K
  refine Own.W.iloadN (pc := 0) d17_0 rfl ?_
  refine Own.W.callS (pc := 1) (ct_ceni G hw z hz0 hz2) d17_1 (hw _ (List.mem_of_getElem? (i := 91) rfl)) (hw _ (List.mem_of_getElem? (i := 92) rfl)) (hw _ (List.mem_of_getElem? (i := 89) rfl)) (hw _ (List.mem_of_getElem? (i := 93) rfl)) (by decide) pd_87992025 rfl rfl (Nat.le_of_ble_eq_true rfl) (Nat.le_of_ble_eq_true rfl) (Nat.le_of_ble_eq_true rfl) (Nat.le_of_ble_eq_true rfl) ?_
  rintro _ _ _ ⟨rfl, rfl, rfl⟩
  refine Own.W.if_ne (pc := 4) 9 d17_4 (by decide) (by decide) ?_ (fun h4 => absurd h4 (by decide))
  intro h4
  refine Own.W.iloadN (pc := 9) d17_9 rfl ?_
  refine Own.W.iconst (pc := 10) (z := (0 : Int32)) d17_10 (by decide) ?_
  refine Own.W.callS (pc := 11) (ct_max G hw from_ 0 (by omega) (by omega)) d17_11 (hw _ (List.mem_of_getElem? (i := 94) rfl)) (hw _ (List.mem_of_getElem? (i := 95) rfl)) (hw _ (List.mem_of_getElem? (i := 96) rfl)) (hw _ (List.mem_of_getElem? (i := 97) rfl)) (by decide) pd_84293393 rfl rfl (Nat.le_of_ble_eq_true rfl) (Nat.le_of_ble_eq_true rfl) (Nat.le_of_ble_eq_true rfl) (Nat.le_of_ble_eq_true rfl) ?_
  rintro _ _ _ ⟨rfl, rfl, rfl⟩
  refine Own.W.istoreN (pc := 14) (Ls' := [_, _, _, _]) d17_14 rfl rfl ?_
  refine Own.W.iloadN (pc := 15) d17_15 rfl ?_
  refine Own.W.aloadN (pc := 16) d17_16 rfl rfl ?_
  refine Own.W.alen (pc := 17) d17_17 hb (z := xs.length.toInt32) (by simp) ?_
  refine Own.W.callS (pc := 18) (ct_min G hw xs.length xs.length (by omega) (by omega)) d17_18 (hw _ (List.mem_of_getElem? (i := 98) rfl)) (hw _ (List.mem_of_getElem? (i := 99) rfl)) (hw _ (List.mem_of_getElem? (i := 96) rfl)) (hw _ (List.mem_of_getElem? (i := 100) rfl)) (by decide) pd_84293393 rfl rfl (Nat.le_of_ble_eq_true rfl) (Nat.le_of_ble_eq_true rfl) (Nat.le_of_ble_eq_true rfl) (Nat.le_of_ble_eq_true rfl) ?_
  rintro _ _ _ ⟨rfl, rfl, rfl⟩
  refine Own.W.istoreN (pc := 21) (Ls' := [_, _, _, _]) d17_21 rfl rfl ?_
  refine Own.W.iloadN (pc := 22) d17_22 rfl ?_
  refine Own.W.iloadN (pc := 23) d17_23 rfl ?_
  rw [Nat.max_eq_left (Nat.zero_le _), Nat.min_self]
  by_cases hlt : from_ < xs.length
  · refine Own.W.ic_lt (pc := 24) 29 d17_24 (by decide) (by decide) ?_ (fun h24 => absurd h24 (fun q => q (Own.n_lt hlt hx)))
    intro h24
    refine Own.W.aloadN (pc := 29) d17_29 rfl rfl ?_
    refine Own.W.iloadN (pc := 30) d17_30 rfl ?_
    refine Own.W.iloadN (pc := 31) d17_31 rfl ?_
    refine Own.W.iloadN (pc := 32) d17_32 rfl ?_
    refine Own.W.callS (pc := 33) (ct_ioc G hw b xs hx z from_ hz (by omega) hb) d17_33 (hw _ (List.mem_of_getElem? (i := 101) rfl)) (hw _ (List.mem_of_getElem? (i := 102) rfl)) (hw _ (List.mem_of_getElem? (i := 89) rfl)) (hw _ (List.mem_of_getElem? (i := 103) rfl)) (by decide) pd_47763415 rfl rfl (Nat.le_of_ble_eq_true rfl) (Nat.le_of_ble_eq_true rfl) (Nat.le_of_ble_eq_true rfl) (Nat.le_of_ble_eq_true rfl) ?_
    rintro _ _ _ ⟨rfl, rfl, rfl⟩
    refine Own.W.iret (pc := 36) d17_36 rfl (by simp) rfl ?_ (Nat.le_of_ble_eq_true rfl) (Nat.le_of_ble_eq_true rfl)
    exact ⟨rfl, rfl, rfl⟩
  · refine Own.W.ic_lt (pc := 24) 29 d17_24 (by decide) (by decide) (fun h24 => absurd h24 (Own.n_nlt (by omega) (by omega))) ?_
    intro h24
    refine Own.W.iconst (pc := 27) (z := (-1 : Int32)) d17_27 (by decide) ?_
    refine Own.W.iret (pc := 28) d17_28 rfl (by simp) rfl ?_ (Nat.le_of_ble_eq_true rfl) (Nat.le_of_ble_eq_true rfl)
    exact ⟨by rw [List.drop_eq_nil_of_le (by omega)]; rfl, rfl, rfl⟩
theorem d13_0 : decode jdk_42_method_80_code 0 = .ok (.aload_n 0, 1) := by decide +kernel
theorem d13_1 : decode jdk_42_method_80_code 1 = .ok (.invokevirtual 492, 3) := by decide +kernel
theorem d13_4 : decode jdk_42_method_80_code 4 = .ok (.ifCond .eq 19, 3) := by decide +kernel
theorem d13_7 : decode jdk_42_method_80_code 7 = .ok (.aload_n 0, 1) := by decide +kernel
theorem d13_8 : decode jdk_42_method_80_code 8 = .ok (.getfield 9, 3) := by decide +kernel
theorem d13_11 : decode jdk_42_method_80_code 11 = .ok (.iload_n 1, 1) := by decide +kernel
theorem d13_12 : decode jdk_42_method_80_code 12 = .ok (.iload_n 2, 1) := by decide +kernel
theorem d13_13 : decode jdk_42_method_80_code 13 = .ok (.aload_n 0, 1) := by decide +kernel
theorem d13_14 : decode jdk_42_method_80_code 14 = .ok (.invokevirtual 505, 3) := by decide +kernel
theorem pd_93421983 : parseMethodDescriptor "()I" = some ⟨[], some .int⟩ := by decide +kernel
theorem d13_17 : decode jdk_42_method_80_code 17 = .ok (.invokestatic 637, 3) := by decide +kernel
theorem d13_20 : decode jdk_42_method_80_code 20 = .ok (.goto 16, 3) := by decide +kernel
theorem d13_36 : decode jdk_42_method_80_code 36 = .ok (.ireturn, 1) := by decide +kernel
theorem pn_78423615 : plainFor (⟨"java/lang/String", "indexOf", "(II)I"⟩ : MethodName) = true := by first | exact plainFor_of_name (by first | (simp [plainName, overriddenIn]; done) | decide +kernel) | decide +kernel
set_option maxRecDepth 65536 in
set_option maxHeartbeats 4000000 in
theorem ct_sio (G : Own.Gx) (hw : ∀ d ∈ tables_1, d.before G.a0 G.Z = true) (hC : Own.CSt G) {As : List Own.Ent} {Li : List Own.LitE} (a : Addr) (xs : List Int32) (hx : xs.length < 2147483648) (z : Int32) (from_ : Nat) (hz : z.toInt8.toInt32 = z) (hz0 : ¬ z < 0) (hz2 : ¬ (255 : Int32) < z) (hf : from_ < 2147483648) (ha : Own.StrIn G As a (xs.map Value.int) 0) :
    Own.Ct G [] (⟨"java/lang/String", "indexOf", "(II)I"⟩ : MethodName) jdk_42_method_80_code 3 (some .int) ({ frames := 2, cells := 0, slots := 0, locals := 32 } : Room) [.ref a, .int z, .int from_.toInt32] As Li (fun v A L => v = some (.int (own_iz (own_ix z (xs.drop from_) from_))) ∧ As = A ∧ Li = L) := by
  refine Own.Ct.intro pn_78423615 (Ls := [.val (.ref a), .val (.int z), .val (.int from_.toInt32)]) rfl rfl ?_
  intro K
  obtain ⟨ab, a1, a2, a3, a4⟩ := id ha
  refine Own.W.aloadN (pc := 0) d13_0 rfl rfl ?_
  refine Own.W.callV (pc := 1) (ct_isl G hw hC a _ ha) d13_1 (C := "java/lang/String") ha.is (hw _ (List.mem_of_getElem? (i := 72) rfl)) (hw _ (List.mem_of_getElem? (i := 73) rfl)) (Own.nf_sel (hw _ (List.mem_of_getElem? (i := 75) rfl))) (hw _ (List.mem_of_getElem? (i := 75) rfl)) (hw _ (List.mem_of_getElem? (i := 74) rfl)) (hw _ (List.mem_of_getElem? (i := 7) rfl)) (hw _ (List.mem_of_getElem? (i := 76) rfl)) (by decide) pd_93422000 rfl rfl (Nat.le_of_ble_eq_true rfl) (Nat.le_of_ble_eq_true rfl) (Nat.le_of_ble_eq_true rfl) (Nat.le_of_ble_eq_true rfl) ?_
  rintro _ _ _ ⟨rfl, rfl, rfl⟩
  refine Own.W.if_eq (pc := 4) 23 d13_4 (by decide) (by decide) (fun h4 => absurd h4 (by decide)) ?_
  intro h4
  refine Own.W.aloadN (pc := 7) d13_7 rfl rfl ?_
  refine Own.W.getI (pc := 8) (host := "") (Or.inl (hw _ (List.mem_of_getElem? (i := 32) rfl))) (Via.refl (O := "java/lang/String")) d13_8 a2 ?_
  refine Own.W.iloadN (pc := 11) d13_11 rfl ?_
  refine Own.W.iloadN (pc := 12) d13_12 rfl ?_
  refine Own.W.aloadN (pc := 13) d13_13 rfl rfl ?_
  refine Own.W.callV (pc := 14) (ct_slen G hw hC a _ xs.length.toInt32 ha (by simp)) d13_14 (C := "java/lang/String") ha.is (hw _ (List.mem_of_getElem? (i := 77) rfl)) (hw _ (List.mem_of_getElem? (i := 78) rfl)) (Own.nf_sel (hw _ (List.mem_of_getElem? (i := 80) rfl))) (hw _ (List.mem_of_getElem? (i := 80) rfl)) (hw _ (List.mem_of_getElem? (i := 79) rfl)) (hw _ (List.mem_of_getElem? (i := 7) rfl)) (hw _ (List.mem_of_getElem? (i := 81) rfl)) (by decide) pd_93421983 rfl rfl (Nat.le_of_ble_eq_true rfl) (Nat.le_of_ble_eq_true rfl) (Nat.le_of_ble_eq_true rfl) (Nat.le_of_ble_eq_true rfl) ?_
  rintro _ _ _ ⟨rfl, rfl, rfl⟩
  refine Own.W.callS (pc := 17) (ct_io G hw ab xs hx z from_ hz hz0 hz2 hf a4) d13_17 (hw _ (List.mem_of_getElem? (i := 87) rfl)) (hw _ (List.mem_of_getElem? (i := 88) rfl)) (hw _ (List.mem_of_getElem? (i := 89) rfl)) (hw _ (List.mem_of_getElem? (i := 90) rfl)) (by decide) pd_47763415 rfl rfl (Nat.le_of_ble_eq_true rfl) (Nat.le_of_ble_eq_true rfl) (Nat.le_of_ble_eq_true rfl) (Nat.le_of_ble_eq_true rfl) ?_
  rintro _ _ _ ⟨rfl, rfl, rfl⟩
  refine Own.W.goto (pc := 20) 36 d13_20 (by decide) (by decide) ?_
  refine Own.W.iret (pc := 36) d13_36 rfl (by simp) rfl ?_ (Nat.le_of_ble_eq_true rfl) (Nat.le_of_ble_eq_true rfl)
  exact ⟨rfl, rfl, rfl⟩
theorem d12_0 : decode jdk_42_method_79_code 0 = .ok (.aload_n 0, 1) := by decide +kernel
theorem d12_1 : decode jdk_42_method_79_code 1 = .ok (.iload_n 1, 1) := by decide +kernel
theorem d12_2 : decode jdk_42_method_79_code 2 = .ok (.iconst 0, 1) := by decide +kernel
theorem d12_3 : decode jdk_42_method_79_code 3 = .ok (.invokevirtual 633, 3) := by decide +kernel
theorem d12_6 : decode jdk_42_method_79_code 6 = .ok (.ireturn, 1) := by decide +kernel
theorem pn_46285110 : plainFor (⟨"java/lang/String", "indexOf", "(I)I"⟩ : MethodName) = true := by first | exact plainFor_of_name (by first | (simp [plainName, overriddenIn]; done) | decide +kernel) | decide +kernel
set_option maxRecDepth 65536 in
set_option maxHeartbeats 4000000 in
theorem ct_si1 (G : Own.Gx) (hw : ∀ d ∈ tables_1, d.before G.a0 G.Z = true) (hC : Own.CSt G) {As : List Own.Ent} {Li : List Own.LitE} (a : Addr) (xs : List Int32) (hx : xs.length < 2147483648) (z : Int32) (hz : z.toInt8.toInt32 = z) (hz0 : ¬ z < 0) (hz2 : ¬ (255 : Int32) < z) (ha : Own.StrIn G As a (xs.map Value.int) 0) :
    Own.Ct G [] (⟨"java/lang/String", "indexOf", "(I)I"⟩ : MethodName) jdk_42_method_79_code 2 (some .int) ({ frames := 3, cells := 0, slots := 0, locals := 46 } : Room) [.ref a, .int z] As Li (fun v A L => v = some (.int (own_iz (own_ix z xs 0))) ∧ As = A ∧ Li = L) := by
  refine Own.Ct.intro pn_46285110 (Ls := [.val (.ref a), .val (.int z)]) rfl rfl ?_
  intro K
  refine Own.W.aloadN (pc := 0) d12_0 rfl rfl ?_
  refine Own.W.iloadN (pc := 1) d12_1 rfl ?_
  refine Own.W.iconst (pc := 2) (z := (0 : Int32)) d12_2 (by decide) ?_
  refine Own.W.callV (pc := 3) (ct_sio G hw hC a xs hx z 0 hz hz0 hz2 (by decide) ha) d12_3 (C := "java/lang/String") ha.is (hw _ (List.mem_of_getElem? (i := 67) rfl)) (hw _ (List.mem_of_getElem? (i := 68) rfl)) (Own.nf_sel (hw _ (List.mem_of_getElem? (i := 70) rfl))) (hw _ (List.mem_of_getElem? (i := 70) rfl)) (hw _ (List.mem_of_getElem? (i := 69) rfl)) (hw _ (List.mem_of_getElem? (i := 7) rfl)) (hw _ (List.mem_of_getElem? (i := 71) rfl)) (by decide) pd_84293393 rfl rfl (Nat.le_of_ble_eq_true rfl) (Nat.le_of_ble_eq_true rfl) (Nat.le_of_ble_eq_true rfl) (Nat.le_of_ble_eq_true rfl) ?_
  rintro _ _ _ ⟨rfl, rfl, rfl⟩
  refine Own.W.iret (pc := 6) d12_6 rfl (by simp) rfl ?_ (Nat.le_of_ble_eq_true rfl) (Nat.le_of_ble_eq_true rfl)
  exact ⟨rfl, rfl, rfl⟩
def own_al (rs : List Addr) : List Value := rs.map Value.ref ++ List.replicate (10 - rs.length) .null
theorem own_al_len {rs : List Addr} (h : rs.length ≤ 10) : (own_al rs).length = 10 := by simp [own_al]; omega
theorem own_al_add {rs : List Addr} {u : Addr} (h : rs.length < 10) : (own_al rs).set rs.length (.ref u) = own_al (rs ++ [u]) := by
  obtain ⟨k, hk⟩ : ∃ k, 10 - rs.length = k + 1 := ⟨10 - rs.length - 1, by omega⟩
  rw [own_al, own_al, hk, List.set_append_right _ _ (by simp), List.length_map, Nat.sub_self, List.replicate_succ, List.set_cons_zero, List.map_append, List.append_assoc, List.length_append, show 10 - (rs.length + [u].length) = k by simp; omega]
  rfl
theorem own_al_at {rs : List Addr} {k : Nat} (h : k < rs.length) : (own_al rs)[k]? = some (.ref rs[k]) := by
  rw [own_al, List.getElem?_append_left (by simpa using h)]; simp [h]
/-- the array of an empty list -/
def Dflt (G : Own.Gx) (df : Addr) : Prop := Sta G.Z G.Z.heap "java/util/ArrayList" "DEFAULTCAPACITY_EMPTY_ELEMENTDATA" "[Ljava/lang/Object;" (.ref df) ∧ Own.AV G.Z G.Z.heap df false (.object "java/lang/Object") []
theorem d11_0 : decode jdk_22_method_1_code 0 = .ok (.aload_n 0, 1) := by decide +kernel
theorem d11_1 : decode jdk_22_method_1_code 1 = .ok (.invokespecial 1, 3) := by decide +kernel
theorem d11_4 : decode jdk_22_method_1_code 4 = .ok (.return_, 1) := by decide +kernel
theorem pn_6809312 : plainFor (⟨"java/util/AbstractCollection", "<init>", "()V"⟩ : MethodName) = true := by first | exact plainFor_of_name (by first | (simp [plainName, overriddenIn]; done) | decide +kernel) | decide +kernel
set_option maxRecDepth 65536 in
set_option maxHeartbeats 4000000 in
theorem ct_acl (G : Own.Gx) (hw : ∀ d ∈ tables_1, d.before G.a0 G.Z = true) {As : List Own.Ent} {Li : List Own.LitE} (o : Addr) :
    Own.Ct G [] (⟨"java/util/AbstractCollection", "<init>", "()V"⟩ : MethodName) jdk_22_method_1_code 1 none ({ frames := 1, cells := 0, slots := 0, locals := 12 } : Room) [.ref o] As Li (fun v A L => v = none ∧ As = A ∧ Li = L) := by
  refine Own.Ct.intro pn_6809312 (Ls := [.val (.ref o)]) rfl rfl ?_
  intro K
  refine Own.W.aloadN (pc := 0) d11_0 rfl rfl ?_
  refine Own.W.callO (pc := 1) d11_1 (hw _ (List.mem_of_getElem? (i := 56) rfl)) (hw _ (List.mem_of_getElem? (i := 16) rfl)) (hw _ (List.mem_of_getElem? (i := 17) rfl)) (Nat.le_of_ble_eq_true rfl) (Nat.le_of_ble_eq_true rfl) ?_
  refine Own.W.vret (pc := 4) d11_4 rfl ?_ (Nat.le_of_ble_eq_true rfl) (Nat.le_of_ble_eq_true rfl)
  exact ⟨rfl, rfl, rfl⟩
theorem d10_0 : decode jdk_39_method_1_code 0 = .ok (.aload_n 0, 1) := by decide +kernel
theorem d10_1 : decode jdk_39_method_1_code 1 = .ok (.invokespecial 1, 3) := by decide +kernel
theorem pd_93421996 : parseMethodDescriptor "()V" = some ⟨[], none⟩ := by decide +kernel
theorem d10_4 : decode jdk_39_method_1_code 4 = .ok (.aload_n 0, 1) := by decide +kernel
theorem d10_5 : decode jdk_39_method_1_code 5 = .ok (.iconst 0, 1) := by decide +kernel
theorem d10_6 : decode jdk_39_method_1_code 6 = .ok (.putfield 7, 3) := by decide +kernel
theorem d10_9 : decode jdk_39_method_1_code 9 = .ok (.return_, 1) := by decide +kernel
theorem pn_23679792 : plainFor (⟨"java/util/AbstractList", "<init>", "()V"⟩ : MethodName) = true := by first | exact plainFor_of_name (by first | (simp [plainName, overriddenIn]; done) | decide +kernel) | decide +kernel
set_option maxRecDepth 65536 in
set_option maxHeartbeats 4000000 in
theorem ct_abl (G : Own.Gx) (hw : ∀ d ∈ tables_1, d.before G.a0 G.Z = true) {As : List Own.Ent} {Li : List Own.LitE} (o : Addr) :
    Own.Ct G [] (⟨"java/util/AbstractList", "<init>", "()V"⟩ : MethodName) jdk_39_method_1_code 1 none ({ frames := 2, cells := 0, slots := 0, locals := 24 } : Room) [.ref o] ((o, true, Own.obj "java/util/ArrayList" F_java_util_ArrayList [.int 0, .null, .int 0]) :: As) Li (fun v A L => v = none ∧ A = (o, true, Own.obj "java/util/ArrayList" F_java_util_ArrayList [.int 0, .null, .int 0]) :: As ∧ Li = L) := by
  refine Own.Ct.intro pn_23679792 (Ls := [.val (.ref o)]) rfl rfl ?_
  intro K
  refine Own.W.aloadN (pc := 0) d10_0 rfl rfl ?_
  refine Own.W.callI (pc := 1) (ct_acl G hw o) d10_1 rfl (hw _ (List.mem_of_getElem? (i := 50) rfl)) (hw _ (List.mem_of_getElem? (i := 51) rfl)) (hw _ (List.mem_of_getElem? (i := 54) rfl)) (hw _ (List.mem_of_getElem? (i := 55) rfl)) (by decide) pd_93421996 rfl rfl (Nat.le_of_ble_eq_true rfl) (Nat.le_of_ble_eq_true rfl) (Nat.le_of_ble_eq_true rfl) (Nat.le_of_ble_eq_true rfl) ?_
  rintro _ _ _ ⟨rfl, rfl, rfl⟩
  refine Own.W.aloadN (pc := 4) d10_4 rfl rfl ?_
  refine Own.W.iconst (pc := 5) (z := (0 : Int32)) d10_5 (by decide) ?_
  refine Own.W.putF (pc := 6) (host := "") (Or.inl (hw _ (List.mem_of_getElem? (i := 57) rfl))) (Via.refl (O := "java/util/AbstractList")) d10_6 (Or.inl (hw _ (List.mem_of_getElem? (i := 58) rfl))) (hw _ (List.mem_of_getElem? (i := 39) rfl)) (ty := .int) (by decide) rfl rfl (by repeat (first | exact Own.Upd.head | exact Own.Upd.mid | apply Own.Upd.tail)) (by repeat (first | exact Own.FUp.head | apply Own.FUp.tail)) ?_
  refine Own.W.vret (pc := 9) d10_9 rfl ?_ (Nat.le_of_ble_eq_true rfl) (Nat.le_of_ble_eq_true rfl)
  exact ⟨rfl, rfl, rfl⟩
theorem d9_0 : decode jdk_38_method_2_code 0 = .ok (.aload_n 0, 1) := by decide +kernel
theorem d9_1 : decode jdk_38_method_2_code 1 = .ok (.invokespecial 1, 3) := by decide +kernel
theorem d9_4 : decode jdk_38_method_2_code 4 = .ok (.aload_n 0, 1) := by decide +kernel
theorem d9_5 : decode jdk_38_method_2_code 5 = .ok (.getstatic 39, 3) := by decide +kernel
theorem d9_8 : decode jdk_38_method_2_code 8 = .ok (.putfield 9, 3) := by decide +kernel
theorem d9_11 : decode jdk_38_method_2_code 11 = .ok (.return_, 1) := by decide +kernel
theorem pn_36425659 : plainFor (⟨"java/util/ArrayList", "<init>", "()V"⟩ : MethodName) = true := by first | exact plainFor_of_name (by first | (simp [plainName, overriddenIn]; done) | decide +kernel) | decide +kernel
set_option maxRecDepth 65536 in
set_option maxHeartbeats 4000000 in
theorem ct_ali (G : Own.Gx) (hw : ∀ d ∈ tables_1, d.before G.a0 G.Z = true) (df : Addr) (hD : Dflt G df) {As : List Own.Ent} {Li : List Own.LitE} (o : Addr) :
    Own.Ct G [] (⟨"java/util/ArrayList", "<init>", "()V"⟩ : MethodName) jdk_38_method_2_code 1 none ({ frames := 3, cells := 0, slots := 0, locals := 36 } : Room) [.ref o] ((o, true, Own.obj "java/util/ArrayList" F_java_util_ArrayList [.int 0, .null, .int 0]) :: As) Li (fun v A L => v = none ∧ A = (o, true, Own.obj "java/util/ArrayList" F_java_util_ArrayList [.int 0, .ref df, .int 0]) :: As ∧ Li = L) := by
  refine Own.Ct.intro pn_36425659 (Ls := [.val (.ref o)]) rfl rfl ?_
  intro K
  refine Own.W.aloadN (pc := 0) d9_0 rfl rfl ?_
  refine Own.W.callI (pc := 1) (ct_abl G hw o) d9_1 rfl (hw _ (List.mem_of_getElem? (i := 44) rfl)) (hw _ (List.mem_of_getElem? (i := 45) rfl)) (hw _ (List.mem_of_getElem? (i := 48) rfl)) (hw _ (List.mem_of_getElem? (i := 49) rfl)) (by decide) pd_93421996 rfl rfl (Nat.le_of_ble_eq_true rfl) (Nat.le_of_ble_eq_true rfl) (Nat.le_of_ble_eq_true rfl) (Nat.le_of_ble_eq_true rfl) ?_
  rintro _ _ _ ⟨rfl, rfl, rfl⟩
  refine Own.W.aloadN (pc := 4) d9_4 rfl rfl ?_
  refine Own.W.getS (pc := 5) (host := "") (Or.inl (hw _ (List.mem_of_getElem? (i := 59) rfl))) (Via.refl (O := "java/util/ArrayList")) d9_5 hD.1 ?_
  refine Own.W.putF (pc := 8) (host := "") (Or.inl (hw _ (List.mem_of_getElem? (i := 60) rfl))) (Via.refl (O := "java/util/ArrayList")) d9_8 (Or.inl (hw _ (List.mem_of_getElem? (i := 61) rfl))) (hw _ (List.mem_of_getElem? (i := 39) rfl)) (ty := (.array (.object "java/lang/Object"))) (by decide) rfl rfl (by repeat (first | exact Own.Upd.head | exact Own.Upd.mid | apply Own.Upd.tail)) (by repeat (first | exact Own.FUp.head | apply Own.FUp.tail)) ?_
  refine Own.W.vret (pc := 11) d9_11 rfl ?_ (Nat.le_of_ble_eq_true rfl) (Nat.le_of_ble_eq_true rfl)
  exact ⟨rfl, rfl, rfl⟩
theorem d27_0 : decode jdk_38_method_6_code 0 = .ok (.aload_n 0, 1) := by decide +kernel
theorem d27_1 : decode jdk_38_method_6_code 1 = .ok (.getfield 9, 3) := by decide +kernel
theorem d27_4 : decode jdk_38_method_6_code 4 = .ok (.arraylength, 1) := by decide +kernel
theorem d27_5 : decode jdk_38_method_6_code 5 = .ok (.istore_n 2, 1) := by decide +kernel
theorem d27_6 : decode jdk_38_method_6_code 6 = .ok (.iload_n 2, 1) := by decide +kernel
theorem d27_7 : decode jdk_38_method_6_code 7 = .ok (.ifCond .gt 13, 3) := by decide +kernel
theorem d27_10 : decode jdk_38_method_6_code 10 = .ok (.aload_n 0, 1) := by decide +kernel
theorem d27_11 : decode jdk_38_method_6_code 11 = .ok (.getfield 9, 3) := by decide +kernel
theorem d27_14 : decode jdk_38_method_6_code 14 = .ok (.getstatic 39, 3) := by decide +kernel
theorem d27_17 : decode jdk_38_method_6_code 17 = .ok (.if_acmp .eq 28, 3) := by decide +kernel
theorem d27_45 : decode jdk_38_method_6_code 45 = .ok (.aload_n 0, 1) := by decide +kernel
theorem d27_46 : decode jdk_38_method_6_code 46 = .ok (.bipush 10, 2) := by decide +kernel
theorem d27_48 : decode jdk_38_method_6_code 48 = .ok (.iload_n 1, 1) := by decide +kernel
theorem d27_49 : decode jdk_38_method_6_code 49 = .ok (.invokestatic 79, 3) := by decide +kernel
theorem d27_52 : decode jdk_38_method_6_code 52 = .ok (.anewarray 7, 3) := by decide +kernel
theorem d27_55 : decode jdk_38_method_6_code 55 = .ok (.dup_x1, 1) := by decide +kernel
theorem d27_56 : decode jdk_38_method_6_code 56 = .ok (.putfield 9, 3) := by decide +kernel
theorem d27_59 : decode jdk_38_method_6_code 59 = .ok (.areturn, 1) := by decide +kernel
theorem pn_30568762 : plainFor (⟨"java/util/ArrayList", "grow", "(I)[Ljava/lang/Object;"⟩ : MethodName) = true := by first | exact plainFor_of_name (by first | (simp [plainName, overriddenIn]; done) | decide +kernel) | decide +kernel
set_option maxRecDepth 65536 in
set_option maxHeartbeats 4000000 in
theorem ct_gr2 (G : Own.Gx) (hw : ∀ d ∈ tables_1, d.before G.a0 G.Z = true) (df : Addr) (hD : Dflt G df) {As : List Own.Ent} {Li : List Own.LitE} (l : Addr) (mc : Int32) :
    Own.Ct G [] (⟨"java/util/ArrayList", "grow", "(I)[Ljava/lang/Object;"⟩ : MethodName) jdk_38_method_6_code 4 (some (.array (.object "java/lang/Object"))) ({ frames := 1, cells := 1, slots := 10, locals := 14 } : Room) [.ref l, .int 1] ((l, true, Own.obj "java/util/ArrayList" F_java_util_ArrayList [.int mc, .ref df, .int 0]) :: As) Li (fun v A L => ∃ d, v = some (.ref d) ∧ A = (d, true, Own.arr (.object "java/lang/Object") (own_al [])) :: (l, true, Own.obj "java/util/ArrayList" F_java_util_ArrayList [.int mc, .ref d, .int 0]) :: As ∧ Li = L) := by
  refine Own.Ct.intro pn_30568762 (Ls := [.val (.ref l), .val (.int 1), .unset, .unset]) rfl rfl ?_
  intro K
  refine Own.W.aloadN (pc := 0) d27_0 rfl rfl ?_
  refine Own.W.getF (pc := 1) (host := "") (Or.inl (hw _ (List.mem_of_getElem? (i := 60) rfl))) (Via.refl (O := "java/util/ArrayList")) d27_1 (by repeat (first | exact List.Mem.head _ | assumption | exact List.mem_append_right _ (List.Mem.head _) | apply List.Mem.tail)) (by repeat (first | exact Own.FAt.head | apply Own.FAt.tail)) ?_
  refine Own.W.alen (pc := 4) d27_4 (Own.AVin.old hD.2) (z := 0) rfl ?_
  refine Own.W.istoreN (pc := 5) (Ls' := [_, _, _, _]) d27_5 rfl rfl ?_
  refine Own.W.iloadN (pc := 6) d27_6 rfl ?_
  refine Own.W.if_gt (pc := 7) 20 d27_7 (by decide) (by decide) (fun h7 => absurd h7 (by decide)) ?_
  intro h7
  refine Own.W.aloadN (pc := 10) d27_10 rfl rfl ?_
  refine Own.W.getF (pc := 11) (host := "") (Or.inl (hw _ (List.mem_of_getElem? (i := 60) rfl))) (Via.refl (O := "java/util/ArrayList")) d27_11 (by repeat (first | exact List.Mem.head _ | assumption | exact List.mem_append_right _ (List.Mem.head _) | apply List.Mem.tail)) (by repeat (first | exact Own.FAt.head | apply Own.FAt.tail)) ?_
  refine Own.W.getS (pc := 14) (host := "") (Or.inl (hw _ (List.mem_of_getElem? (i := 59) rfl))) (Via.refl (O := "java/util/ArrayList")) d27_14 hD.1 ?_
  refine Own.W.ac1 (pc := 17) 45 d27_17 (by decide) (by decide) rfl rfl (by simp [Jvm.Free.XT.acmp]) ?_
  refine Own.W.aloadN (pc := 45) d27_45 rfl rfl ?_
  refine Own.W.bipush (pc := 46) (z := (10 : Int32)) d27_46 (by decide) ?_
  refine Own.W.iloadN (pc := 48) d27_48 rfl ?_
  refine Own.W.callS (pc := 49) (ct_max G hw 10 1 (by decide) (by decide)) d27_49 (hw _ (List.mem_of_getElem? (i := 151) rfl)) (hw _ (List.mem_of_getElem? (i := 95) rfl)) (hw _ (List.mem_of_getElem? (i := 96) rfl)) (hw _ (List.mem_of_getElem? (i := 97) rfl)) (by decide) pd_84293393 rfl rfl (Nat.le_of_ble_eq_true rfl) (Nat.le_of_ble_eq_true rfl) (Nat.le_of_ble_eq_true rfl) (Nat.le_of_ble_eq_true rfl) ?_
  rintro _ _ _ ⟨rfl, rfl, rfl⟩
  refine Own.W.newR (pc := 52) 10 (hw _ (List.mem_of_getElem? (i := 152) rfl)) (hw _ (List.mem_of_getElem? (i := 153) rfl)) d27_52 (by decide) (by decide) (by decide) (vs := own_al []) (by decide) (Nat.le_of_ble_eq_true rfl) (Nat.le_of_ble_eq_true rfl) ?_
  intro o52
  refine Own.W.dupX1 (pc := 55) d27_55 rfl rfl ?_
  refine Own.W.putF (pc := 56) (host := "") (Or.inl (hw _ (List.mem_of_getElem? (i := 60) rfl))) (Via.refl (O := "java/util/ArrayList")) d27_56 (Or.inl (hw _ (List.mem_of_getElem? (i := 61) rfl))) (hw _ (List.mem_of_getElem? (i := 39) rfl)) (ty := (.array (.object "java/lang/Object"))) (by decide) rfl rfl (by repeat (first | exact Own.Upd.head | exact Own.Upd.mid | apply Own.Upd.tail)) (by repeat (first | exact Own.FUp.head | apply Own.FUp.tail)) ?_
  refine Own.W.aret (pc := 59) d27_59 rfl rfl rfl ?_ (Nat.le_of_ble_eq_true rfl) (Nat.le_of_ble_eq_true rfl)
  exact ⟨_, rfl, rfl, rfl⟩
theorem d26_0 : decode jdk_38_method_7_code 0 = .ok (.aload_n 0, 1) := by decide +kernel
theorem d26_1 : decode jdk_38_method_7_code 1 = .ok (.aload_n 0, 1) := by decide +kernel
theorem d26_2 : decode jdk_38_method_7_code 2 = .ok (.getfield 48, 3) := by decide +kernel
theorem d26_5 : decode jdk_38_method_7_code 5 = .ok (.iconst 1, 1) := by decide +kernel
theorem d26_6 : decode jdk_38_method_7_code 6 = .ok (.iadd, 1) := by decide +kernel
theorem d26_7 : decode jdk_38_method_7_code 7 = .ok (.invokevirtual 69, 3) := by decide +kernel
theorem pd_91629850 : parseMethodDescriptor "(I)[Ljava/lang/Object;" = some ⟨[.int], some (.array (.object "java/lang/Object"))⟩ := by decide +kernel
theorem d26_10 : decode jdk_38_method_7_code 10 = .ok (.areturn, 1) := by decide +kernel
theorem pn_63732433 : plainFor (⟨"java/util/ArrayList", "grow", "()[Ljava/lang/Object;"⟩ : MethodName) = true := by first | exact plainFor_of_name (by first | (simp [plainName, overriddenIn]; done) | decide +kernel) | decide +kernel
set_option maxRecDepth 65536 in
set_option maxHeartbeats 4000000 in
theorem ct_gr1 (G : Own.Gx) (hw : ∀ d ∈ tables_1, d.before G.a0 G.Z = true) (df : Addr) (hD : Dflt G df) {As : List Own.Ent} {Li : List Own.LitE} (l : Addr) (mc : Int32) :
    Own.Ct G [] (⟨"java/util/ArrayList", "grow", "()[Ljava/lang/Object;"⟩ : MethodName) jdk_38_method_7_code 1 (some (.array (.object "java/lang/Object"))) ({ frames := 2, cells := 1, slots := 10, locals := 29 } : Room) [.ref l] ((l, true, Own.obj "java/util/ArrayList" F_java_util_ArrayList [.int mc, .ref df, .int 0]) :: As) Li (fun v A L => ∃ d, v = some (.ref d) ∧ A = (d, true, Own.arr (.object "java/lang/Object") (own_al [])) :: (l, true, Own.obj "java/util/ArrayList" F_java_util_ArrayList [.int mc, .ref d, .int 0]) :: As ∧ Li = L) := by
  refine Own.Ct.intro pn_63732433 (Ls := [.val (.ref l)]) rfl rfl ?_
  intro K
  refine Own.W.aloadN (pc := 0) d26_0 rfl rfl ?_
  refine Own.W.aloadN (pc := 1) d26_1 rfl rfl ?_
  refine Own.W.getF (pc := 2) (host := "") (Or.inl (hw _ (List.mem_of_getElem? (i := 134) rfl))) (Via.refl (O := "java/util/ArrayList")) d26_2 (by repeat (first | exact List.Mem.head _ | assumption | exact List.mem_append_right _ (List.Mem.head _) | apply List.Mem.tail)) (by repeat (first | exact Own.FAt.head | apply Own.FAt.tail)) ?_
  refine Own.W.iconst (pc := 5) (z := (1 : Int32)) d26_5 (by decide) ?_
  refine Own.W.iadd (pc := 6) d26_6 (z := 1) (by decide) ?_
  refine Own.W.callP (pc := 7) (ct_gr2 G hw df hD l mc) d26_7 (C := "java/util/ArrayList") (Own.Is.mem (List.Mem.head _)) (hw _ (List.mem_of_getElem? (i := 146) rfl)) (hw _ (List.mem_of_getElem? (i := 147) rfl)) (hw _ (List.mem_of_getElem? (i := 149) rfl)) (hw _ (List.mem_of_getElem? (i := 148) rfl)) (hw _ (List.mem_of_getElem? (i := 40) rfl)) (hw _ (List.mem_of_getElem? (i := 150) rfl)) (by decide) pd_91629850 rfl rfl (Nat.le_of_ble_eq_true rfl) (Nat.le_of_ble_eq_true rfl) (Nat.le_of_ble_eq_true rfl) (Nat.le_of_ble_eq_true rfl) ?_
  rintro _ _ _ ⟨d, rfl, rfl, rfl⟩
  refine Own.W.aret (pc := 10) d26_10 rfl rfl rfl ?_ (Nat.le_of_ble_eq_true rfl) (Nat.le_of_ble_eq_true rfl)
  exact ⟨_, rfl, rfl, rfl⟩
theorem d25_0 : decode jdk_38_method_24_code 0 = .ok (.iload_n 3, 1) := by decide +kernel
theorem d25_1 : decode jdk_38_method_24_code 1 = .ok (.aload_n 2, 1) := by decide +kernel
theorem d25_2 : decode jdk_38_method_24_code 2 = .ok (.arraylength, 1) := by decide +kernel
theorem d25_3 : decode jdk_38_method_24_code 3 = .ok (.if_icmp .ne 8, 3) := by decide +kernel
theorem d25_6 : decode jdk_38_method_24_code 6 = .ok (.aload_n 0, 1) := by decide +kernel
theorem d25_7 : decode jdk_38_method_24_code 7 = .ok (.invokevirtual 129, 3) := by decide +kernel
theorem pd_91787953 : parseMethodDescriptor "()[Ljava/lang/Object;" = some ⟨[], some (.array (.object "java/lang/Object"))⟩ := by decide +kernel
theorem d25_10 : decode jdk_38_method_24_code 10 = .ok (.astore_n 2, 1) := by decide +kernel
theorem d25_11 : decode jdk_38_method_24_code 11 = .ok (.aload_n 2, 1) := by decide +kernel
theorem d25_12 : decode jdk_38_method_24_code 12 = .ok (.iload_n 3, 1) := by decide +kernel
theorem d25_13 : decode jdk_38_method_24_code 13 = .ok (.aload_n 1, 1) := by decide +kernel
theorem d25_14 : decode jdk_38_method_24_code 14 = .ok (.aastore, 1) := by decide +kernel
theorem d25_15 : decode jdk_38_method_24_code 15 = .ok (.aload_n 0, 1) := by decide +kernel
theorem d25_16 : decode jdk_38_method_24_code 16 = .ok (.iload_n 3, 1) := by decide +kernel
theorem d25_17 : decode jdk_38_method_24_code 17 = .ok (.iconst 1, 1) := by decide +kernel
theorem d25_18 : decode jdk_38_method_24_code 18 = .ok (.iadd, 1) := by decide +kernel
theorem d25_19 : decode jdk_38_method_24_code 19 = .ok (.putfield 48, 3) := by decide +kernel
theorem d25_22 : decode jdk_38_method_24_code 22 = .ok (.return_, 1) := by decide +kernel
theorem pn_17501690 : plainFor (⟨"java/util/ArrayList", "add", "(Ljava/lang/Object;[Ljava/lang/Object;I)V"⟩ : MethodName) = true := by first | exact plainFor_of_name (by first | (simp [plainName, overriddenIn]; done) | decide +kernel) | decide +kernel
set_option maxRecDepth 65536 in
set_option maxHeartbeats 4000000 in
theorem ct_a3E (G : Own.Gx) (hw : ∀ d ∈ tables_1, d.before G.a0 G.Z = true) (df : Addr) (hD : Dflt G df) {As : List Own.Ent} {Li : List Own.LitE} (l : Addr) (mc : Int32) (u : Addr) (hu : Own.Is G As u "com/example/stairwell/stairwell/sql/UrlParameter") :
    Own.Ct G [] (⟨"java/util/ArrayList", "add", "(Ljava/lang/Object;[Ljava/lang/Object;I)V"⟩ : MethodName) jdk_38_method_24_code 4 none ({ frames := 3, cells := 1, slots := 10, locals := 41 } : Room) [.ref l, .ref u, .ref df, .int 0] ((l, true, Own.obj "java/util/ArrayList" F_java_util_ArrayList [.int mc, .ref df, .int 0]) :: As) Li (fun v A L => ∃ d, v = none ∧ A = (l, true, Own.obj "java/util/ArrayList" F_java_util_ArrayList [.int mc, .ref d, .int ([u] : List Addr).length.toInt32]) :: (d, true, Own.arr (.object "java/lang/Object") (own_al [u])) :: As ∧ Li = L) := by
  refine Own.Ct.intro pn_17501690 (Ls := [.val (.ref l), .val (.ref u), .val (.ref df), .val (.int 0)]) rfl rfl ?_
  intro K
  refine Own.W.iloadN (pc := 0) d25_0 rfl ?_
  refine Own.W.aloadN (pc := 1) d25_1 rfl rfl ?_
  refine Own.W.alen (pc := 2) d25_2 (Own.AVin.old hD.2) (z := 0) rfl ?_
  refine Own.W.ic_ne (pc := 3) 11 d25_3 (by decide) (by decide) (fun h3 => absurd h3 (fun q => q rfl)) ?_
  intro h3
  refine Own.W.aloadN (pc := 6) d25_6 rfl rfl ?_
  refine Own.W.callP (pc := 7) (ct_gr1 G hw df hD l mc) d25_7 (C := "java/util/ArrayList") (Own.Is.mem (List.Mem.head _)) (hw _ (List.mem_of_getElem? (i := 141) rfl)) (hw _ (List.mem_of_getElem? (i := 142) rfl)) (hw _ (List.mem_of_getElem? (i := 144) rfl)) (hw _ (List.mem_of_getElem? (i := 143) rfl)) (hw _ (List.mem_of_getElem? (i := 40) rfl)) (hw _ (List.mem_of_getElem? (i := 145) rfl)) (by decide) pd_91787953 rfl rfl (Nat.le_of_ble_eq_true rfl) (Nat.le_of_ble_eq_true rfl) (Nat.le_of_ble_eq_true rfl) (Nat.le_of_ble_eq_true rfl) ?_
  rintro _ _ _ ⟨d, rfl, rfl, rfl⟩
  refine Own.W.astoreN (pc := 10) (Ls' := [_, _, _, _]) d25_10 rfl rfl rfl ?_
  refine Own.W.aloadN (pc := 11) d25_11 rfl rfl ?_
  refine Own.W.iloadN (pc := 12) d25_12 rfl ?_
  refine Own.W.aloadN (pc := 13) d25_13 rfl rfl ?_
  refine Own.W.aastore (pc := 14) d25_14 (by decide) (i := 0) (by decide) (by decide) (Or.inr ⟨u, "com/example/stairwell/stairwell/sql/UrlParameter", rfl, hu.sub (Own.Sub.cons (Own.Sub.cons (Own.Sub.refl _))), Or.inr (hw _ (List.mem_of_getElem? (i := 154) rfl))⟩) (vs' := own_al [u]) rfl Own.Upd.head ?_
  refine Own.W.aloadN (pc := 15) d25_15 rfl rfl ?_
  refine Own.W.iloadN (pc := 16) d25_16 rfl ?_
  refine Own.W.iconst (pc := 17) (z := (1 : Int32)) d25_17 (by decide) ?_
  refine Own.W.iadd (pc := 18) d25_18 (z := ([u] : List Addr).length.toInt32) rfl ?_
  refine Own.W.putF (pc := 19) (host := "") (Or.inl (hw _ (List.mem_of_getElem? (i := 134) rfl))) (Via.refl (O := "java/util/ArrayList")) d25_19 (Or.inl (hw _ (List.mem_of_getElem? (i := 135) rfl))) (hw _ (List.mem_of_getElem? (i := 39) rfl)) (ty := .int) (by decide) rfl rfl (by repeat (first | exact Own.Upd.head | exact Own.Upd.mid | apply Own.Upd.tail)) (by repeat (first | exact Own.FUp.head | apply Own.FUp.tail)) ?_
  refine Own.W.perm ?_ (List.Perm.swap _ _ _)
  refine Own.W.vret (pc := 22) d25_22 rfl  ?_ (Nat.le_of_ble_eq_true rfl) (Nat.le_of_ble_eq_true rfl)
  exact ⟨_, rfl, rfl, rfl⟩
set_option maxRecDepth 65536 in
set_option maxHeartbeats 4000000 in
theorem ct_a3N (G : Own.Gx) (hw : ∀ d ∈ tables_1, d.before G.a0 G.Z = true) {As : List Own.Ent} {Li : List Own.LitE} (l d : Addr) (mc : Int32) (rs : List Addr) (hr : rs.length < 10) (u : Addr) (hu : Own.Is G As u "com/example/stairwell/stairwell/sql/UrlParameter") :
    Own.Ct G [] (⟨"java/util/ArrayList", "add", "(Ljava/lang/Object;[Ljava/lang/Object;I)V"⟩ : MethodName) jdk_38_method_24_code 4 none ({ frames := 0, cells := 0, slots := 0, locals := 0 } : Room) [.ref l, .ref u, .ref d, .int rs.length.toInt32] ((l, true, Own.obj "java/util/ArrayList" F_java_util_ArrayList [.int mc, .ref d, .int rs.length.toInt32]) :: (d, true, Own.arr (.object "java/lang/Object") (own_al rs)) :: As) Li (fun v A L => v = none ∧ A = (l, true, Own.obj "java/util/ArrayList" F_java_util_ArrayList [.int mc, .ref d, .int (rs ++ [u]).length.toInt32]) :: (d, true, Own.arr (.object "java/lang/Object") (own_al (rs ++ [u]))) :: As ∧ Li = L) := by
  refine Own.Ct.intro pn_17501690 (Ls := [.val (.ref l), .val (.ref u), .val (.ref d), .val (.int rs.length.toInt32)]) rfl rfl ?_
  intro K
  refine Own.W.iloadN (pc := 0) d25_0 rfl ?_
  refine Own.W.aloadN (pc := 1) d25_1 rfl rfl ?_
  refine Own.W.alen (pc := 2) d25_2 (Own.AVin.mem (List.Mem.tail _ (List.Mem.head _))) (z := (10 : Nat).toInt32) (by rw [own_al_len (by omega)]) ?_
  refine Own.W.ic_ne (pc := 3) 11 d25_3 (by decide) (by decide) ?_ (fun h3 => absurd h3 (Own.n_ne (by omega) (by omega) (by decide)))
  intro h3
  refine Own.W.aloadN (pc := 11) d25_11 rfl rfl ?_
  refine Own.W.iloadN (pc := 12) d25_12 rfl ?_
  refine Own.W.aloadN (pc := 13) d25_13 rfl rfl ?_
  refine Own.W.aastore (pc := 14) d25_14 (Own.n_nn (by omega)) (i := rs.length) (Own.n_clamp (by omega)) (by rw [own_al_len (by omega)]; omega) (Or.inr ⟨u, "com/example/stairwell/stairwell/sql/UrlParameter", rfl, hu.sub (Own.Sub.cons (Own.Sub.cons (Own.Sub.refl _))), Or.inr (hw _ (List.mem_of_getElem? (i := 154) rfl))⟩) (own_al_add hr) (Own.Upd.tail Own.Upd.head) ?_
  refine Own.W.aloadN (pc := 15) d25_15 rfl rfl ?_
  refine Own.W.iloadN (pc := 16) d25_16 rfl ?_
  refine Own.W.iconst (pc := 17) (z := (1 : Int32)) d25_17 (by decide) ?_
  refine Own.W.iadd (pc := 18) d25_18 (z := (rs ++ [u]).length.toInt32) (by rw [List.length_append]; exact Own.n_succ _) ?_
  refine Own.W.putF (pc := 19) (host := "") (Or.inl (hw _ (List.mem_of_getElem? (i := 134) rfl))) (Via.refl (O := "java/util/ArrayList")) d25_19 (Or.inl (hw _ (List.mem_of_getElem? (i := 135) rfl))) (hw _ (List.mem_of_getElem? (i := 39) rfl)) (ty := .int) (by decide) rfl rfl (by repeat (first | exact Own.Upd.head | exact Own.Upd.mid | apply Own.Upd.tail)) (by repeat (first | exact Own.FUp.head | apply Own.FUp.tail)) ?_
  refine Own.W.vret (pc := 22) d25_22 rfl ?_ (Nat.le_of_ble_eq_true rfl) (Nat.le_of_ble_eq_true rfl)
  exact ⟨rfl, rfl, rfl⟩
theorem d24_0 : decode jdk_38_method_25_code 0 = .ok (.aload_n 0, 1) := by decide +kernel
theorem d24_1 : decode jdk_38_method_25_code 1 = .ok (.dup, 1) := by decide +kernel
theorem d24_2 : decode jdk_38_method_25_code 2 = .ok (.getfield 63, 3) := by decide +kernel
theorem d24_5 : decode jdk_38_method_25_code 5 = .ok (.iconst 1, 1) := by decide +kernel
theorem d24_6 : decode jdk_38_method_25_code 6 = .ok (.iadd, 1) := by decide +kernel
theorem d24_7 : decode jdk_38_method_25_code 7 = .ok (.putfield 63, 3) := by decide +kernel
theorem d24_10 : decode jdk_38_method_25_code 10 = .ok (.aload_n 0, 1) := by decide +kernel
theorem d24_11 : decode jdk_38_method_25_code 11 = .ok (.aload_n 1, 1) := by decide +kernel
theorem d24_12 : decode jdk_38_method_25_code 12 = .ok (.aload_n 0, 1) := by decide +kernel
theorem d24_13 : decode jdk_38_method_25_code 13 = .ok (.getfield 9, 3) := by decide +kernel
theorem d24_16 : decode jdk_38_method_25_code 16 = .ok (.aload_n 0, 1) := by decide +kernel
theorem d24_17 : decode jdk_38_method_25_code 17 = .ok (.getfield 48, 3) := by decide +kernel
theorem d24_20 : decode jdk_38_method_25_code 20 = .ok (.invokevirtual 131, 3) := by decide +kernel
theorem pd_1215664 : parseMethodDescriptor "(Ljava/lang/Object;[Ljava/lang/Object;I)V" = some ⟨[(.object "java/lang/Object"), (.array (.object "java/lang/Object")), .int], none⟩ := by decide +kernel
theorem d24_23 : decode jdk_38_method_25_code 23 = .ok (.iconst 1, 1) := by decide +kernel
theorem d24_24 : decode jdk_38_method_25_code 24 = .ok (.ireturn, 1) := by decide +kernel
theorem pn_35795450 : plainFor (⟨"java/util/ArrayList", "add", "(Ljava/lang/Object;)Z"⟩ : MethodName) = true := by first | exact plainFor_of_name (by first | (simp [plainName, overriddenIn]; done) | decide +kernel) | decide +kernel
set_option maxRecDepth 65536 in
set_option maxHeartbeats 4000000 in
theorem ct_adE (G : Own.Gx) (hw : ∀ d ∈ tables_1, d.before G.a0 G.Z = true) (df : Addr) (hD : Dflt G df) {As : List Own.Ent} {Li : List Own.LitE} (l : Addr) (mc : Int32) (u : Addr) (hu : Own.Is G As u "com/example/stairwell/stairwell/sql/UrlParameter") :
    Own.Ct G [] (⟨"java/util/ArrayList", "add", "(Ljava/lang/Object;)Z"⟩ : MethodName) jdk_38_method_25_code 2 (some .boolean) ({ frames := 4, cells := 1, slots := 10, locals := 56 } : Room) [.ref l, .ref u] ((l, true, Own.obj "java/util/ArrayList" F_java_util_ArrayList [.int mc, .ref df, .int 0]) :: As) Li (fun v A L => ∃ d m2, v = some (.int 1) ∧ A = (l, true, Own.obj "java/util/ArrayList" F_java_util_ArrayList [.int m2, .ref d, .int ([u] : List Addr).length.toInt32]) :: (d, true, Own.arr (.object "java/lang/Object") (own_al [u])) :: As ∧ Li = L) := by
  refine Own.Ct.intro pn_35795450 (Ls := [.val (.ref l), .val (.ref u)]) rfl rfl ?_
  intro K
  refine Own.W.aloadN (pc := 0) d24_0 rfl rfl ?_
  refine Own.W.dup (pc := 1) d24_1 rfl ?_
  refine Own.W.getF (pc := 2) (host := "") (Or.inl (hw _ (List.mem_of_getElem? (i := 132) rfl))) (Via.of (hw _ (List.mem_of_getElem? (i := 133) rfl))) d24_2 (by repeat (first | exact List.Mem.head _ | assumption | exact List.mem_append_right _ (List.Mem.head _) | apply List.Mem.tail)) (by repeat (first | exact Own.FAt.head | apply Own.FAt.tail)) ?_
  refine Own.W.iconst (pc := 5) (z := (1 : Int32)) d24_5 (by decide) ?_
  refine Own.W.iadd (pc := 6) d24_6 rfl ?_
  refine Own.W.putF (pc := 7) (host := "") (Or.inl (hw _ (List.mem_of_getElem? (i := 132) rfl))) (Via.of (hw _ (List.mem_of_getElem? (i := 133) rfl))) d24_7 (Or.inl (hw _ (List.mem_of_getElem? (i := 58) rfl))) (hw _ (List.mem_of_getElem? (i := 39) rfl)) (ty := .int) (by decide) rfl rfl (by repeat (first | exact Own.Upd.head | exact Own.Upd.mid | apply Own.Upd.tail)) (by repeat (first | exact Own.FUp.head | apply Own.FUp.tail)) ?_
  refine Own.W.aloadN (pc := 10) d24_10 rfl rfl ?_
  refine Own.W.aloadN (pc := 11) d24_11 rfl rfl ?_
  refine Own.W.aloadN (pc := 12) d24_12 rfl rfl ?_
  refine Own.W.getF (pc := 13) (host := "") (Or.inl (hw _ (List.mem_of_getElem? (i := 60) rfl))) (Via.refl (O := "java/util/ArrayList")) d24_13 (by repeat (first | exact List.Mem.head _ | assumption | exact List.mem_append_right _ (List.Mem.head _) | apply List.Mem.tail)) (by repeat (first | exact Own.FAt.head | apply Own.FAt.tail)) ?_
  refine Own.W.aloadN (pc := 16) d24_16 rfl rfl ?_
  refine Own.W.getF (pc := 17) (host := "") (Or.inl (hw _ (List.mem_of_getElem? (i := 134) rfl))) (Via.refl (O := "java/util/ArrayList")) d24_17 (by repeat (first | exact List.Mem.head _ | assumption | exact List.mem_append_right _ (List.Mem.head _) | apply List.Mem.tail)) (by repeat (first | exact Own.FAt.head | apply Own.FAt.tail)) ?_
  refine Own.W.callP (pc := 20) (ct_a3E G hw df hD l _ u hu) d24_20 (C := "java/util/ArrayList") (Own.Is.mem (List.Mem.head _)) (hw _ (List.mem_of_getElem? (i := 136) rfl)) (hw _ (List.mem_of_getElem? (i := 137) rfl)) (hw _ (List.mem_of_getElem? (i := 139) rfl)) (hw _ (List.mem_of_getElem? (i := 138) rfl)) (hw _ (List.mem_of_getElem? (i := 40) rfl)) (hw _ (List.mem_of_getElem? (i := 140) rfl)) (by decide) pd_1215664 rfl rfl (Nat.le_of_ble_eq_true rfl) (Nat.le_of_ble_eq_true rfl) (Nat.le_of_ble_eq_true rfl) (Nat.le_of_ble_eq_true rfl) ?_
  rintro _ _ _ ⟨d, rfl, rfl, rfl⟩
  refine Own.W.iconst (pc := 23) (z := (1 : Int32)) d24_23 (by decide) ?_
  refine Own.W.iret (pc := 24) d24_24 rfl (by simp) (by first | rfl | decide) ?_ (Nat.le_of_ble_eq_true rfl) (Nat.le_of_ble_eq_true rfl)
  exact ⟨_, _, rfl, rfl, rfl⟩
set_option maxRecDepth 65536 in
set_option maxHeartbeats 4000000 in
theorem ct_adN (G : Own.Gx) (hw : ∀ d ∈ tables_1, d.before G.a0 G.Z = true) {As : List Own.Ent} {Li : List Own.LitE} (l d : Addr) (mc : Int32) (rs : List Addr) (hr : rs.length < 10) (u : Addr) (hu : Own.Is G As u "com/example/stairwell/stairwell/sql/UrlParameter") :
    Own.Ct G [] (⟨"java/util/ArrayList", "add", "(Ljava/lang/Object;)Z"⟩ : MethodName) jdk_38_method_25_code 2 (some .boolean) ({ frames := 1, cells := 0, slots := 0, locals := 15 } : Room) [.ref l, .ref u] ((l, true, Own.obj "java/util/ArrayList" F_java_util_ArrayList [.int mc, .ref d, .int rs.length.toInt32]) :: (d, true, Own.arr (.object "java/lang/Object") (own_al rs)) :: As) Li (fun v A L => ∃ m2, v = some (.int 1) ∧ A = (l, true, Own.obj "java/util/ArrayList" F_java_util_ArrayList [.int m2, .ref d, .int (rs ++ [u]).length.toInt32]) :: (d, true, Own.arr (.object "java/lang/Object") (own_al (rs ++ [u]))) :: As ∧ Li = L) := by
  refine Own.Ct.intro pn_35795450 (Ls := [.val (.ref l), .val (.ref u)]) rfl rfl ?_
  intro K
  refine Own.W.aloadN (pc := 0) d24_0 rfl rfl ?_
  refine Own.W.dup (pc := 1) d24_1 rfl ?_
  refine Own.W.getF (pc := 2) (host := "") (Or.inl (hw _ (List.mem_of_getElem? (i := 132) rfl))) (Via.of (hw _ (List.mem_of_getElem? (i := 133) rfl))) d24_2 (by repeat (first | exact List.Mem.head _ | assumption | exact List.mem_append_right _ (List.Mem.head _) | apply List.Mem.tail)) (by repeat (first | exact Own.FAt.head | apply Own.FAt.tail)) ?_
  refine Own.W.iconst (pc := 5) (z := (1 : Int32)) d24_5 (by decide) ?_
  refine Own.W.iadd (pc := 6) d24_6 rfl ?_
  refine Own.W.putF (pc := 7) (host := "") (Or.inl (hw _ (List.mem_of_getElem? (i := 132) rfl))) (Via.of (hw _ (List.mem_of_getElem? (i := 133) rfl))) d24_7 (Or.inl (hw _ (List.mem_of_getElem? (i := 58) rfl))) (hw _ (List.mem_of_getElem? (i := 39) rfl)) (ty := .int) (by decide) rfl rfl (by repeat (first | exact Own.Upd.head | exact Own.Upd.mid | apply Own.Upd.tail)) (by repeat (first | exact Own.FUp.head | apply Own.FUp.tail)) ?_
  refine Own.W.aloadN (pc := 10) d24_10 rfl rfl ?_
  refine Own.W.aloadN (pc := 11) d24_11 rfl rfl ?_
  refine Own.W.aloadN (pc := 12) d24_12 rfl rfl ?_
  refine Own.W.getF (pc := 13) (host := "") (Or.inl (hw _ (List.mem_of_getElem? (i := 60) rfl))) (Via.refl (O := "java/util/ArrayList")) d24_13 (by repeat (first | exact List.Mem.head _ | assumption | exact List.mem_append_right _ (List.Mem.head _) | apply List.Mem.tail)) (by repeat (first | exact Own.FAt.head | apply Own.FAt.tail)) ?_
  refine Own.W.aloadN (pc := 16) d24_16 rfl rfl ?_
  refine Own.W.getF (pc := 17) (host := "") (Or.inl (hw _ (List.mem_of_getElem? (i := 134) rfl))) (Via.refl (O := "java/util/ArrayList")) d24_17 (by repeat (first | exact List.Mem.head _ | assumption | exact List.mem_append_right _ (List.Mem.head _) | apply List.Mem.tail)) (by repeat (first | exact Own.FAt.head | apply Own.FAt.tail)) ?_
  refine Own.W.callP (pc := 20) (ct_a3N G hw l d _ rs hr u hu) d24_20 (C := "java/util/ArrayList") (Own.Is.mem (List.Mem.head _)) (hw _ (List.mem_of_getElem? (i := 136) rfl)) (hw _ (List.mem_of_getElem? (i := 137) rfl)) (hw _ (List.mem_of_getElem? (i := 139) rfl)) (hw _ (List.mem_of_getElem? (i := 138) rfl)) (hw _ (List.mem_of_getElem? (i := 40) rfl)) (hw _ (List.mem_of_getElem? (i := 140) rfl)) (by decide) pd_1215664 rfl rfl (Nat.le_of_ble_eq_true rfl) (Nat.le_of_ble_eq_true rfl) (Nat.le_of_ble_eq_true rfl) (Nat.le_of_ble_eq_true rfl) ?_
  rintro _ _ _ ⟨rfl, rfl, rfl⟩
  refine Own.W.iconst (pc := 23) (z := (1 : Int32)) d24_23 (by decide) ?_
  refine Own.W.iret (pc := 24) d24_24 rfl (by simp) (by first | rfl | decide) ?_ (Nat.le_of_ble_eq_true rfl) (Nat.le_of_ble_eq_true rfl)
  exact ⟨_, rfl, rfl, rfl⟩
theorem d28_0 : decode jdk_38_method_8_code 0 = .ok (.aload_n 0, 1) := by decide +kernel
theorem d28_1 : decode jdk_38_method_8_code 1 = .ok (.getfield 48, 3) := by decide +kernel
theorem d28_4 : decode jdk_38_method_8_code 4 = .ok (.ireturn, 1) := by decide +kernel
theorem pn_5841755 : plainFor (⟨"java/util/ArrayList", "size", "()I"⟩ : MethodName) = true := by first | exact plainFor_of_name (by first | (simp [plainName, overriddenIn]; done) | decide +kernel) | decide +kernel
set_option maxRecDepth 65536 in
set_option maxHeartbeats 4000000 in
theorem ct_alz (G : Own.Gx) (hw : ∀ d ∈ tables_1, d.before G.a0 G.Z = true) {As : List Own.Ent} {Li : List Own.LitE} {w : Bool} (l d : Addr) (mc n : Int32) (hm : (l, w, Own.obj "java/util/ArrayList" F_java_util_ArrayList [.int mc, .ref d, .int n]) ∈ As) :
    Own.Ct G [] (⟨"java/util/ArrayList", "size", "()I"⟩ : MethodName) jdk_38_method_8_code 1 (some .int) ({ frames := 0, cells := 0, slots := 0, locals := 0 } : Room) [.ref l] As Li (fun v A L => v = some (.int n) ∧ As = A ∧ Li = L) := by
  refine Own.Ct.intro pn_5841755 (Ls := [.val (.ref l)]) rfl rfl ?_
  intro K
  refine Own.W.aloadN (pc := 0) d28_0 rfl rfl ?_
  refine Own.W.getF (pc := 1) (host := "") (Or.inl (hw _ (List.mem_of_getElem? (i := 134) rfl))) (Via.refl (O := "java/util/ArrayList")) d28_1 (by repeat (first | exact List.Mem.head _ | assumption | exact List.mem_append_right _ (List.Mem.head _) | apply List.Mem.tail)) (by repeat (first | exact Own.FAt.head | apply Own.FAt.tail)) ?_
  refine Own.W.iret (pc := 4) d28_4 rfl (by simp) rfl ?_ (Nat.le_of_ble_eq_true rfl) (Nat.le_of_ble_eq_true rfl)
  exact ⟨rfl, rfl, rfl⟩
theorem d30_0 : decode jdk_31_method_17_code 0 = .ok (.iload_n 0, 1) := by decide +kernel
theorem d30_1 : decode jdk_31_method_17_code 1 = .ok (.iload_n 1, 1) := by decide +kernel
theorem d30_2 : decode jdk_31_method_17_code 2 = .ok (.aconst_null, 1) := by decide +kernel
theorem d30_3 : decode jdk_31_method_17_code 3 = .ok (.invokestatic 105, 3) := by decide +kernel
theorem d30_6 : decode jdk_31_method_17_code 6 = .ok (.ireturn, 1) := by decide +kernel
theorem pn_5242711 : plainFor (⟨"java/util/Objects", "checkIndex", "(II)I"⟩ : MethodName) = true := by first | exact plainFor_of_name (by first | (simp [plainName, overriddenIn]; done) | decide +kernel) | decide +kernel
set_option maxRecDepth 65536 in
set_option maxHeartbeats 4000000 in
theorem ct_oci (G : Own.Gx) (hw : ∀ d ∈ tables_1, d.before G.a0 G.Z = true) {As : List Own.Ent} {Li : List Own.LitE} (i n : Int32) (h0 : ¬ i < 0) (h1 : i < n) :
    Own.Ct G [] (⟨"java/util/Objects", "checkIndex", "(II)I"⟩ : MethodName) jdk_31_method_17_code 2 (some .int) ({ frames := 1, cells := 0, slots := 0, locals := 14 } : Room) [.int i, .int n] As Li (fun v A L => v = some (.int i) ∧ As = A ∧ Li = L) := by
  refine Own.Ct.intro pn_5242711 (Ls := [.val (.int i), .val (.int n)]) rfl rfl ?_
  intro K
  refine Own.W.iloadN (pc := 0) d30_0 rfl ?_
  refine Own.W.iloadN (pc := 1) d30_1 rfl ?_
  refine Own.W.aconstNull (pc := 2) d30_2 ?_
  refine Own.W.callS (pc := 3) (ct_pci G hw i n .null rfl h0 h1) d30_3 (hw _ (List.mem_of_getElem? (i := 175) rfl)) (hw _ (List.mem_of_getElem? (i := 176) rfl)) (hw _ (List.mem_of_getElem? (i := 177) rfl)) (hw _ (List.mem_of_getElem? (i := 178) rfl)) (by decide) pd_25485788 rfl rfl (Nat.le_of_ble_eq_true rfl) (Nat.le_of_ble_eq_true rfl) (Nat.le_of_ble_eq_true rfl) (Nat.le_of_ble_eq_true rfl) ?_
  rintro _ _ _ ⟨rfl, rfl, rfl⟩
  refine Own.W.iret (pc := 6) d30_6 rfl (by simp) rfl ?_ (Nat.le_of_ble_eq_true rfl) (Nat.le_of_ble_eq_true rfl)
  exact ⟨rfl, rfl, rfl⟩
theorem d32_0 : decode jdk_38_method_18_code 0 = .ok (.aload_n 0, 1) := by decide +kernel
theorem d32_1 : decode jdk_38_method_18_code 1 = .ok (.getfield 9, 3) := by decide +kernel
theorem d32_4 : decode jdk_38_method_18_code 4 = .ok (.iload_n 1, 1) := by decide +kernel
theorem d32_5 : decode jdk_38_method_18_code 5 = .ok (.aaload, 1) := by decide +kernel
theorem d32_6 : decode jdk_38_method_18_code 6 = .ok (.areturn, 1) := by decide +kernel
theorem pn_35151876 : plainFor (⟨"java/util/ArrayList", "elementData", "(I)Ljava/lang/Object;"⟩ : MethodName) = true := by first | exact plainFor_of_name (by first | (simp [plainName, overriddenIn]; done) | decide +kernel) | decide +kernel
set_option maxRecDepth 65536 in
set_option maxHeartbeats 4000000 in
theorem ct_eld (G : Own.Gx) (hw : ∀ d ∈ tables_1, d.before G.a0 G.Z = true) {As : List Own.Ent} {Li : List Own.LitE} {w : Bool} (l d : Addr) (mc : Int32) (rs : List Addr) (hr : rs.length ≤ 10) (hm : (l, w, Own.obj "java/util/ArrayList" F_java_util_ArrayList [.int mc, .ref d, .int rs.length.toInt32]) ∈ As) (ha : (d, true, Own.arr (.object "java/lang/Object") (own_al rs)) ∈ As) (k : Nat) (hk : k < rs.length) :
    Own.Ct G [] (⟨"java/util/ArrayList", "elementData", "(I)Ljava/lang/Object;"⟩ : MethodName) jdk_38_method_18_code 2 (some (.object "java/lang/Object")) ({ frames := 0, cells := 0, slots := 0, locals := 0 } : Room) [.ref l, .int k.toInt32] As Li (fun v A L => v = some (.ref rs[k]) ∧ As = A ∧ Li = L) := by
  refine Own.Ct.intro pn_35151876 (Ls := [.val (.ref l), .val (.int k.toInt32)]) rfl rfl ?_
  intro K
  refine Own.W.aloadN (pc := 0) d32_0 rfl rfl ?_
  refine Own.W.getF (pc := 1) (host := "") (Or.inl (hw _ (List.mem_of_getElem? (i := 60) rfl))) (Via.refl (O := "java/util/ArrayList")) d32_1 (by repeat (first | exact List.Mem.head _ | assumption | exact List.mem_append_right _ (List.Mem.head _) | apply List.Mem.tail)) (by repeat (first | exact Own.FAt.head | apply Own.FAt.tail)) ?_
  refine Own.W.iloadN (pc := 4) d32_4 rfl ?_
  refine Own.W.aaload (pc := 5) d32_5 (Own.AVin.mem ha) rfl (Own.n_nn (by omega)) (v := .ref rs[k]) (by rw [Own.n_clamp (by omega)]; exact own_al_at hk) ?_
  refine Own.W.aret (pc := 6) d32_6 rfl rfl rfl ?_ (Nat.le_of_ble_eq_true rfl) (Nat.le_of_ble_eq_true rfl)
  exact ⟨rfl, rfl, rfl⟩
theorem d29_0 : decode jdk_38_method_20_code 0 = .ok (.iload_n 1, 1) := by decide +kernel
theorem d29_1 : decode jdk_38_method_20_code 1 = .ok (.aload_n 0, 1) := by decide +kernel
theorem d29_2 : decode jdk_38_method_20_code 2 = .ok (.getfield 48, 3) := by decide +kernel
theorem d29_5 : decode jdk_38_method_20_code 5 = .ok (.invokestatic 118, 3) := by decide +kernel
theorem d29_8 : decode jdk_38_method_20_code 8 = .ok (.pop, 1) := by decide +kernel
theorem d29_9 : decode jdk_38_method_20_code 9 = .ok (.aload_n 0, 1) := by decide +kernel
theorem d29_10 : decode jdk_38_method_20_code 10 = .ok (.iload_n 1, 1) := by decide +kernel
theorem d29_11 : decode jdk_38_method_20_code 11 = .ok (.invokevirtual 123, 3) := by decide +kernel
theorem pd_95176479 : parseMethodDescriptor "(I)Ljava/lang/Object;" = some ⟨[.int], some (.object "java/lang/Object")⟩ := by decide +kernel
theorem d29_14 : decode jdk_38_method_20_code 14 = .ok (.areturn, 1) := by decide +kernel
theorem pn_63522912 : plainFor (⟨"java/util/ArrayList", "get", "(I)Ljava/lang/Object;"⟩ : MethodName) = true := by first | exact plainFor_of_name (by first | (simp [plainName, overriddenIn]; done) | decide +kernel) | decide +kernel
set_option maxRecDepth 65536 in
set_option maxHeartbeats 4000000 in
theorem ct_get (G : Own.Gx) (hw : ∀ d ∈ tables_1, d.before G.a0 G.Z = true) {As : List Own.Ent} {Li : List Own.LitE} {w : Bool} (l d : Addr) (mc : Int32) (rs : List Addr) (hr : rs.length ≤ 10) (hm : (l, w, Own.obj "java/util/ArrayList" F_java_util_ArrayList [.int mc, .ref d, .int rs.length.toInt32]) ∈ As) (ha : (d, true, Own.arr (.object "java/lang/Object") (own_al rs)) ∈ As) (k : Nat) (hk : k < rs.length) :
    Own.Ct G [] (⟨"java/util/ArrayList", "get", "(I)Ljava/lang/Object;"⟩ : MethodName) jdk_38_method_20_code 2 (some (.object "java/lang/Object")) ({ frames := 2, cells := 0, slots := 0, locals := 27 } : Room) [.ref l, .int k.toInt32] As Li (fun v A L => v = some (.ref rs[k]) ∧ As = A ∧ Li = L) := by
  refine Own.Ct.intro pn_63522912 (Ls := [.val (.ref l), .val (.int k.toInt32)]) rfl rfl ?_
  intro K
  refine Own.W.iloadN (pc := 0) d29_0 rfl ?_
  refine Own.W.aloadN (pc := 1) d29_1 rfl rfl ?_
  refine Own.W.getF (pc := 2) (host := "") (Or.inl (hw _ (List.mem_of_getElem? (i := 134) rfl))) (Via.refl (O := "java/util/ArrayList")) d29_2 (by repeat (first | exact List.Mem.head _ | assumption | exact List.mem_append_right _ (List.Mem.head _) | apply List.Mem.tail)) (by repeat (first | exact Own.FAt.head | apply Own.FAt.tail)) ?_
  refine Own.W.callS (pc := 5) (ct_oci G hw _ _ (Own.n_nn (by omega)) (Own.n_lt hk (by omega))) d29_5 (hw _ (List.mem_of_getElem? (i := 171) rfl)) (hw _ (List.mem_of_getElem? (i := 172) rfl)) (hw _ (List.mem_of_getElem? (i := 173) rfl)) (hw _ (List.mem_of_getElem? (i := 174) rfl)) (by decide) pd_84293393 rfl rfl (Nat.le_of_ble_eq_true rfl) (Nat.le_of_ble_eq_true rfl) (Nat.le_of_ble_eq_true rfl) (Nat.le_of_ble_eq_true rfl) ?_
  rintro _ _ _ ⟨rfl, rfl, rfl⟩
  refine Own.W.pop (pc := 8) d29_8 rfl ?_
  refine Own.W.aloadN (pc := 9) d29_9 rfl rfl ?_
  refine Own.W.iloadN (pc := 10) d29_10 rfl ?_
  refine Own.W.callV (pc := 11) (ct_eld G hw l d mc rs hr hm ha k hk) d29_11 (C := "java/util/ArrayList") (Own.Is.mem hm) (hw _ (List.mem_of_getElem? (i := 179) rfl)) (hw _ (List.mem_of_getElem? (i := 180) rfl)) (Own.nf_sel (hw _ (List.mem_of_getElem? (i := 182) rfl))) (hw _ (List.mem_of_getElem? (i := 182) rfl)) (hw _ (List.mem_of_getElem? (i := 181) rfl)) (hw _ (List.mem_of_getElem? (i := 40) rfl)) (hw _ (List.mem_of_getElem? (i := 183) rfl)) (by decide) pd_95176479 rfl rfl (Nat.le_of_ble_eq_true rfl) (Nat.le_of_ble_eq_true rfl) (Nat.le_of_ble_eq_true rfl) (Nat.le_of_ble_eq_true rfl) ?_
  rintro _ _ _ ⟨rfl, rfl, rfl⟩
  refine Own.W.aret (pc := 14) d29_14 rfl rfl rfl ?_ (Nat.le_of_ble_eq_true rfl) (Nat.le_of_ble_eq_true rfl)
  exact ⟨rfl, rfl, rfl⟩
theorem d1_0 : decode method_2_code 0 = .ok (.iload_n 0, 1) := by decide +kernel
theorem d1_1 : decode method_2_code 1 = .ok (.iconst 3, 1) := by decide +kernel
theorem d1_2 : decode method_2_code 2 = .ok (.iand, 1) := by decide +kernel
theorem d1_3 : decode method_2_code 3 = .ok (.istore_n 1, 1) := by decide +kernel
theorem d1_4 : decode method_2_code 4 = .ok (.iload_n 1, 1) := by decide +kernel
theorem d1_5 : decode method_2_code 5 = .ok (.ifCond .ne 6, 3) := by decide +kernel
theorem d1_11 : decode method_2_code 11 = .ok (.iload_n 1, 1) := by decide +kernel
theorem d1_12 : decode method_2_code 12 = .ok (.iconst 1, 1) := by decide +kernel
theorem d1_13 : decode method_2_code 13 = .ok (.if_icmp .ne 6, 3) := by decide +kernel
theorem d1_19 : decode method_2_code 19 = .ok (.iload_n 0, 1) := by decide +kernel
theorem d1_20 : decode method_2_code 20 = .ok (.iconst 2, 1) := by decide +kernel
theorem d1_21 : decode method_2_code 21 = .ok (.iushr, 1) := by decide +kernel
theorem d1_22 : decode method_2_code 22 = .ok (.sipush 255, 3) := by decide +kernel
theorem d1_25 : decode method_2_code 25 = .ok (.iand, 1) := by decide +kernel
theorem d1_26 : decode method_2_code 26 = .ok (.i2c, 1) := by decide +kernel
theorem d1_27 : decode method_2_code 27 = .ok (.ireturn, 1) := by decide +kernel
theorem d1_16 : decode method_2_code 16 = .ok (.bipush 38, 2) := by decide +kernel
theorem d1_18 : decode method_2_code 18 = .ok (.ireturn, 1) := by decide +kernel
theorem d1_8 : decode method_2_code 8 = .ok (.bipush 61, 2) := by decide +kernel
theorem d1_10 : decode method_2_code 10 = .ok (.ireturn, 1) := by decide +kernel
theorem pn_38497981 : plainFor (⟨"com/example/stairwell/stairwell/sql/UrlParameterHasValuePinLaw", "pick", "(I)C"⟩ : MethodName) = true := by first | exact plainFor_of_name (by first | (simp [plainName, overriddenIn]; done) | decide +kernel) | decide +kernel
set_option maxRecDepth 65536 in
set_option maxHeartbeats 4000000 in
theorem ct_pick (G : Own.Gx) (hw : ∀ d ∈ tables_1, d.before G.a0 G.Z = true) {As : List Own.Ent} {Li : List Own.LitE} (x : Int32) :
    Own.Ct G [] (⟨"com/example/stairwell/stairwell/sql/UrlParameterHasValuePinLaw", "pick", "(I)C"⟩ : MethodName) method_2_code 2 (some .char) ({ frames := 0, cells := 0, slots := 0, locals := 0 } : Room) [.int x] As Li (fun v A L => ∃ z, v = some (.int z) ∧ z &&& 255 = z ∧ A = As ∧ Li = L) := by
  refine Own.Ct.intro pn_38497981 (Ls := [.val (.int x), .unset]) rfl rfl ?_
  intro K
  refine Own.W.iloadN (pc := 0) d1_0 rfl ?_
  refine Own.W.iconst (pc := 1) (z := (3 : Int32)) d1_1 (by decide) ?_
  refine Own.W.iand (pc := 2) d1_2 rfl ?_
  refine Own.W.istoreN (pc := 3) (Ls' := [_, _]) d1_3 rfl rfl ?_
  refine Own.W.iloadN (pc := 4) d1_4 rfl ?_
  refine Own.W.if_ne (pc := 5) 11 d1_5 (by decide) (by decide) ?_ ?_
  · intro h5
    refine Own.W.iloadN (pc := 11) d1_11 rfl ?_
    refine Own.W.iconst (pc := 12) (z := (1 : Int32)) d1_12 (by decide) ?_
    refine Own.W.ic_ne (pc := 13) 19 d1_13 (by decide) (by decide) ?_ ?_
    · intro h13
      refine Own.W.iloadN (pc := 19) d1_19 rfl ?_
      refine Own.W.iconst (pc := 20) (z := (2 : Int32)) d1_20 (by decide) ?_
      refine Own.W.iushr (pc := 21) d1_21 rfl ?_
      refine Own.W.sipush (pc := 22) (z := (255 : Int32)) d1_22 (by decide) ?_
      refine Own.W.iand (pc := 25) d1_25 rfl ?_
      refine Own.W.i2c (pc := 26) d1_26 (i2c_mask _) ?_
      refine Own.W.iret (pc := 27) d1_27 rfl (by simp) (congrArg Value.int (i2c_mask _)) ?_ (Nat.le_of_ble_eq_true rfl) (Nat.le_of_ble_eq_true rfl)
      exact ⟨_, rfl, own_id _, rfl, rfl⟩
    · intro h13
      refine Own.W.bipush (pc := 16) (z := (38 : Int32)) d1_16 (by decide) ?_
      refine Own.W.iret (pc := 18) d1_18 rfl (by simp) (by decide) ?_ (Nat.le_of_ble_eq_true rfl) (Nat.le_of_ble_eq_true rfl)
      exact ⟨38, rfl, by decide, rfl, rfl⟩
  · intro h5
    refine Own.W.bipush (pc := 8) (z := (61 : Int32)) d1_8 (by decide) ?_
    refine Own.W.iret (pc := 10) d1_10 rfl (by simp) (by decide) ?_ (Nat.le_of_ble_eq_true rfl) (Nat.le_of_ble_eq_true rfl)
    exact ⟨61, rfl, by decide, rfl, rfl⟩
theorem d23_0 : decode jdk_30_method_1_code 0 = .ok (.aload_n 0, 1) := by decide +kernel
theorem d23_1 : decode jdk_30_method_1_code 1 = .ok (.invokespecial 1, 3) := by decide +kernel
theorem d23_4 : decode jdk_30_method_1_code 4 = .ok (.return_, 1) := by decide +kernel
theorem pn_78803619 : plainFor (⟨"java/lang/Record", "<init>", "()V"⟩ : MethodName) = true := by first | exact plainFor_of_name (by first | (simp [plainName, overriddenIn]; done) | decide +kernel) | decide +kernel
set_option maxRecDepth 65536 in
set_option maxHeartbeats 4000000 in
theorem ct_rec (G : Own.Gx) (hw : ∀ d ∈ tables_1, d.before G.a0 G.Z = true) {As : List Own.Ent} {Li : List Own.LitE} (o : Addr) :
    Own.Ct G [] (⟨"java/lang/Record", "<init>", "()V"⟩ : MethodName) jdk_30_method_1_code 1 none ({ frames := 1, cells := 0, slots := 0, locals := 12 } : Room) [.ref o] As Li (fun v A L => v = none ∧ As = A ∧ Li = L) := by
  refine Own.Ct.intro pn_78803619 (Ls := [.val (.ref o)]) rfl rfl ?_
  intro K
  refine Own.W.aloadN (pc := 0) d23_0 rfl rfl ?_
  refine Own.W.callO (pc := 1) d23_1 (hw _ (List.mem_of_getElem? (i := 116) rfl)) (hw _ (List.mem_of_getElem? (i := 16) rfl)) (hw _ (List.mem_of_getElem? (i := 17) rfl)) (Nat.le_of_ble_eq_true rfl) (Nat.le_of_ble_eq_true rfl) ?_
  refine Own.W.vret (pc := 4) d23_4 rfl ?_ (Nat.le_of_ble_eq_true rfl) (Nat.le_of_ble_eq_true rfl)
  exact ⟨rfl, rfl, rfl⟩
theorem d22_0 : decode prog_78_method_1_code 0 = .ok (.aload_n 0, 1) := by decide +kernel
theorem d22_1 : decode prog_78_method_1_code 1 = .ok (.invokespecial 1, 3) := by decide +kernel
theorem d22_4 : decode prog_78_method_1_code 4 = .ok (.aload_n 0, 1) := by decide +kernel
theorem d22_5 : decode prog_78_method_1_code 5 = .ok (.iload_n 1, 1) := by decide +kernel
theorem d22_6 : decode prog_78_method_1_code 6 = .ok (.putfield 7, 3) := by decide +kernel
theorem d22_9 : decode prog_78_method_1_code 9 = .ok (.aload_n 0, 1) := by decide +kernel
theorem d22_10 : decode prog_78_method_1_code 10 = .ok (.iload_n 2, 1) := by decide +kernel
theorem d22_11 : decode prog_78_method_1_code 11 = .ok (.putfield 13, 3) := by decide +kernel
theorem d22_14 : decode prog_78_method_1_code 14 = .ok (.aload_n 0, 1) := by decide +kernel
theorem d22_15 : decode prog_78_method_1_code 15 = .ok (.iload_n 3, 1) := by decide +kernel
theorem d22_16 : decode prog_78_method_1_code 16 = .ok (.putfield 16, 3) := by decide +kernel
theorem d22_19 : decode prog_78_method_1_code 19 = .ok (.return_, 1) := by decide +kernel
theorem pn_32260005 : plainFor (⟨"com/example/stairwell/stairwell/sql/UrlParameter", "<init>", "(III)V"⟩ : MethodName) = true := by first | exact plainFor_of_name (by first | (simp [plainName, overriddenIn]; done) | decide +kernel) | decide +kernel
set_option maxRecDepth 65536 in
set_option maxHeartbeats 4000000 in
theorem ct_upi (G : Own.Gx) (hw : ∀ d ∈ tables_1, d.before G.a0 G.Z = true) {As : List Own.Ent} {Li : List Own.LitE} (o : Addr) (s q e : Int32) :
    Own.Ct G [] (⟨"com/example/stairwell/stairwell/sql/UrlParameter", "<init>", "(III)V"⟩ : MethodName) prog_78_method_1_code 4 none ({ frames := 2, cells := 0, slots := 0, locals := 24 } : Room) [.ref o, .int s, .int q, .int e] ((o, true, Own.obj "com/example/stairwell/stairwell/sql/UrlParameter" F_com_example_stairwell_stairwell_sql_UrlParameter [.int 0, .int 0, .int 0]) :: As) Li (fun v A L => v = none ∧ A = (o, true, Own.obj "com/example/stairwell/stairwell/sql/UrlParameter" F_com_example_stairwell_stairwell_sql_UrlParameter [.int s, .int q, .int e]) :: As ∧ Li = L) := by
  refine Own.Ct.intro pn_32260005 (Ls := [.val (.ref o), .val (.int s), .val (.int q), .val (.int e)]) rfl rfl ?_
  intro K
  refine Own.W.aloadN (pc := 0) d22_0 rfl rfl ?_
  refine Own.W.callI (pc := 1) (ct_rec G hw o) d22_1 rfl (hw _ (List.mem_of_getElem? (i := 111) rfl)) (hw _ (List.mem_of_getElem? (i := 112) rfl)) (hw _ (List.mem_of_getElem? (i := 114) rfl)) (hw _ (List.mem_of_getElem? (i := 115) rfl)) (by decide) pd_93421996 rfl rfl (Nat.le_of_ble_eq_true rfl) (Nat.le_of_ble_eq_true rfl) (Nat.le_of_ble_eq_true rfl) (Nat.le_of_ble_eq_true rfl) ?_
  rintro _ _ _ ⟨rfl, rfl, rfl⟩
  refine Own.W.aloadN (pc := 4) d22_4 rfl rfl ?_
  refine Own.W.iloadN (pc := 5) d22_5 rfl ?_
  refine Own.W.putF (pc := 6) (host := "") (Or.inl (hw _ (List.mem_of_getElem? (i := 117) rfl))) (Via.refl (O := "com/example/stairwell/stairwell/sql/UrlParameter")) d22_6 (Or.inr ⟨(hw _ (List.mem_of_getElem? (i := 118) rfl)), rfl, rfl⟩) (hw _ (List.mem_of_getElem? (i := 107) rfl)) (ty := .int) (by decide) rfl rfl (by repeat (first | exact Own.Upd.head | exact Own.Upd.mid | apply Own.Upd.tail)) (by repeat (first | exact Own.FUp.head | apply Own.FUp.tail)) ?_
  refine Own.W.aloadN (pc := 9) d22_9 rfl rfl ?_
  refine Own.W.iloadN (pc := 10) d22_10 rfl ?_
  refine Own.W.putF (pc := 11) (host := "") (Or.inl (hw _ (List.mem_of_getElem? (i := 119) rfl))) (Via.refl (O := "com/example/stairwell/stairwell/sql/UrlParameter")) d22_11 (Or.inr ⟨(hw _ (List.mem_of_getElem? (i := 120) rfl)), rfl, rfl⟩) (hw _ (List.mem_of_getElem? (i := 107) rfl)) (ty := .int) (by decide) rfl rfl (by repeat (first | exact Own.Upd.head | exact Own.Upd.mid | apply Own.Upd.tail)) (by repeat (first | exact Own.FUp.head | apply Own.FUp.tail)) ?_
  refine Own.W.aloadN (pc := 14) d22_14 rfl rfl ?_
  refine Own.W.iloadN (pc := 15) d22_15 rfl ?_
  refine Own.W.putF (pc := 16) (host := "") (Or.inl (hw _ (List.mem_of_getElem? (i := 121) rfl))) (Via.refl (O := "com/example/stairwell/stairwell/sql/UrlParameter")) d22_16 (Or.inr ⟨(hw _ (List.mem_of_getElem? (i := 122) rfl)), rfl, rfl⟩) (hw _ (List.mem_of_getElem? (i := 107) rfl)) (ty := .int) (by decide) rfl rfl (by repeat (first | exact Own.Upd.head | exact Own.Upd.mid | apply Own.Upd.tail)) (by repeat (first | exact Own.FUp.head | apply Own.FUp.tail)) ?_
  refine Own.W.vret (pc := 19) d22_19 rfl ?_ (Nat.le_of_ble_eq_true rfl) (Nat.le_of_ble_eq_true rfl)
  exact ⟨rfl, rfl, rfl⟩
theorem d34_0 : decode prog_78_method_9_code 0 = .ok (.aload_n 0, 1) := by decide +kernel
theorem d34_1 : decode prog_78_method_9_code 1 = .ok (.getfield 7, 3) := by decide +kernel
theorem d34_4 : decode prog_78_method_9_code 4 = .ok (.ireturn, 1) := by decide +kernel
theorem pn_30285725 : plainFor (⟨"com/example/stairwell/stairwell/sql/UrlParameter", "start", "()I"⟩ : MethodName) = true := by first | exact plainFor_of_name (by first | (simp [plainName, overriddenIn]; done) | decide +kernel) | decide +kernel
set_option maxRecDepth 65536 in
set_option maxHeartbeats 4000000 in
theorem ct_ups (G : Own.Gx) (hw : ∀ d ∈ tables_1, d.before G.a0 G.Z = true) {As : List Own.Ent} {Li : List Own.LitE} {w : Bool} (o : Addr) (s q e : Int32) (hm : (o, w, Own.obj "com/example/stairwell/stairwell/sql/UrlParameter" F_com_example_stairwell_stairwell_sql_UrlParameter [.int s, .int q, .int e]) ∈ As) :
    Own.Ct G [] (⟨"com/example/stairwell/stairwell/sql/UrlParameter", "start", "()I"⟩ : MethodName) prog_78_method_9_code 1 (some .int) ({ frames := 0, cells := 0, slots := 0, locals := 0 } : Room) [.ref o] As Li (fun v A L => v = some (.int s) ∧ As = A ∧ Li = L) := by
  refine Own.Ct.intro pn_30285725 (Ls := [.val (.ref o)]) rfl rfl ?_
  intro K
  refine Own.W.aloadN (pc := 0) d34_0 rfl rfl ?_
  refine Own.W.getF (pc := 1) (host := "") (Or.inl (hw _ (List.mem_of_getElem? (i := 117) rfl))) (Via.refl (O := "com/example/stairwell/stairwell/sql/UrlParameter")) d34_1 (by repeat (first | exact List.Mem.head _ | assumption | exact List.mem_append_right _ (List.Mem.head _) | apply List.Mem.tail)) (by repeat (first | exact Own.FAt.head | apply Own.FAt.tail)) ?_
  refine Own.W.iret (pc := 4) d34_4 rfl (by simp) rfl ?_ (Nat.le_of_ble_eq_true rfl) (Nat.le_of_ble_eq_true rfl)
  exact ⟨rfl, rfl, rfl⟩
theorem d35_0 : decode prog_78_method_11_code 0 = .ok (.aload_n 0, 1) := by decide +kernel
theorem d35_1 : decode prog_78_method_11_code 1 = .ok (.getfield 16, 3) := by decide +kernel
theorem d35_4 : decode prog_78_method_11_code 4 = .ok (.ireturn, 1) := by decide +kernel
theorem pn_53437926 : plainFor (⟨"com/example/stairwell/stairwell/sql/UrlParameter", "end", "()I"⟩ : MethodName) = true := by first | exact plainFor_of_name (by first | (simp [plainName, overriddenIn]; done) | decide +kernel) | decide +kernel
set_option maxRecDepth 65536 in
set_option maxHeartbeats 4000000 in
theorem ct_upe (G : Own.Gx) (hw : ∀ d ∈ tables_1, d.before G.a0 G.Z = true) {As : List Own.Ent} {Li : List Own.LitE} {w : Bool} (o : Addr) (s q e : Int32) (hm : (o, w, Own.obj "com/example/stairwell/stairwell/sql/UrlParameter" F_com_example_stairwell_stairwell_sql_UrlParameter [.int s, .int q, .int e]) ∈ As) :
    Own.Ct G [] (⟨"com/example/stairwell/stairwell/sql/UrlParameter", "end", "()I"⟩ : MethodName) prog_78_method_11_code 1 (some .int) ({ frames := 0, cells := 0, slots := 0, locals := 0 } : Room) [.ref o] As Li (fun v A L => v = some (.int e) ∧ As = A ∧ Li = L) := by
  refine Own.Ct.intro pn_53437926 (Ls := [.val (.ref o)]) rfl rfl ?_
  intro K
  refine Own.W.aloadN (pc := 0) d35_0 rfl rfl ?_
  refine Own.W.getF (pc := 1) (host := "") (Or.inl (hw _ (List.mem_of_getElem? (i := 121) rfl))) (Via.refl (O := "com/example/stairwell/stairwell/sql/UrlParameter")) d35_1 (by repeat (first | exact List.Mem.head _ | assumption | exact List.mem_append_right _ (List.Mem.head _) | apply List.Mem.tail)) (by repeat (first | exact Own.FAt.head | apply Own.FAt.tail)) ?_
  refine Own.W.iret (pc := 4) d35_4 rfl (by simp) rfl ?_ (Nat.le_of_ble_eq_true rfl) (Nat.le_of_ble_eq_true rfl)
  exact ⟨rfl, rfl, rfl⟩
def own_hv (q : Int32) : Int32 := if q < 0 then 0 else 1
theorem d39_0 : decode prog_78_method_4_code 0 = .ok (.aload_n 0, 1) := by decide +kernel
theorem d39_1 : decode prog_78_method_4_code 1 = .ok (.getfield 13, 3) := by decide +kernel
theorem d39_4 : decode prog_78_method_4_code 4 = .ok (.ifCond .lt 7, 3) := by decide +kernel
theorem d39_11 : decode prog_78_method_4_code 11 = .ok (.iconst 0, 1) := by decide +kernel
theorem d39_12 : decode prog_78_method_4_code 12 = .ok (.ireturn, 1) := by decide +kernel
theorem d39_7 : decode prog_78_method_4_code 7 = .ok (.iconst 1, 1) := by decide +kernel
theorem d39_8 : decode prog_78_method_4_code 8 = .ok (.goto 4, 3) := by decide +kernel
theorem pn_2844025 : plainFor (⟨"com/example/stairwell/stairwell/sql/UrlParameter", "hasValue", "()Z"⟩ : MethodName) = true := by first | exact plainFor_of_name (by first | (simp [plainName, overriddenIn]; done) | decide +kernel) | decide +kernel
set_option maxRecDepth 65536 in
set_option maxHeartbeats 4000000 in
theorem ct_uph (G : Own.Gx) (hw : ∀ d ∈ tables_1, d.before G.a0 G.Z = true) {As : List Own.Ent} {Li : List Own.LitE} {w : Bool} (o : Addr) (s q e : Int32) (hm : (o, w, Own.obj "com/example/stairwell/stairwell/sql/UrlParameter" F_com_example_stairwell_stairwell_sql_UrlParameter [.int s, .int q, .int e]) ∈ As) :
    Own.Ct G [] (⟨"com/example/stairwell/stairwell/sql/UrlParameter", "hasValue", "()Z"⟩ : MethodName) prog_78_method_4_code 1 (some .boolean) ({ frames := 0, cells := 0, slots := 0, locals := 0 } : Room) [.ref o] As Li (fun v A L => v = some (.int (own_hv q)) ∧ As = A ∧ Li = L) := by
  refine Own.Ct.intro pn_2844025 (Ls := [.val (.ref o)]) rfl rfl ?_
  intro K
  refine Own.W.aloadN (pc := 0) d39_0 rfl rfl ?_
  refine Own.W.getF (pc := 1) (host := "") (Or.inl (hw _ (List.mem_of_getElem? (i := 119) rfl))) (Via.refl (O := "com/example/stairwell/stairwell/sql/UrlParameter")) d39_1 (by repeat (first | exact List.Mem.head _ | assumption | exact List.mem_append_right _ (List.Mem.head _) | apply List.Mem.tail)) (by repeat (first | exact Own.FAt.head | apply Own.FAt.tail)) ?_
  refine Own.W.if_lt (pc := 4) 11 d39_4 (by decide) (by decide) ?_ ?_
  · intro h4
    refine Own.W.iconst (pc := 11) (z := (0 : Int32)) d39_11 (by decide) ?_
    refine Own.W.iret (pc := 12) d39_12 rfl (by simp) (by first | rfl | decide) ?_ (Nat.le_of_ble_eq_true rfl) (Nat.le_of_ble_eq_true rfl)
    exact ⟨by rw [own_hv, if_pos h4], rfl, rfl⟩
  · intro h4
    refine Own.W.iconst (pc := 7) (z := (1 : Int32)) d39_7 (by decide) ?_
    refine Own.W.goto (pc := 8) 12 d39_8 (by decide) (by decide) ?_
    refine Own.W.iret (pc := 12) d39_12 rfl (by simp) (by first | rfl | decide) ?_ (Nat.le_of_ble_eq_true rfl) (Nat.le_of_ble_eq_true rfl)
    exact ⟨by rw [own_hv, if_neg h4], rfl, rfl⟩
def own_good (xs : List Int32) (a b : Nat) (q : Int32) : Prop := 1 ≤ a ∧ a ≤ b ∧ b ≤ xs.length ∧ (¬ q < 0 ↔ ∃ k, a ≤ k ∧ k < b ∧ xs[k]? = some 61)
def own_P (A : List Own.Ent) (xs : List Int32) (r : Addr) : Prop := ∃ (a b : Nat) (q : Int32), (r, false, Own.obj "com/example/stairwell/stairwell/sql/UrlParameter" F_com_example_stairwell_stairwell_sql_UrlParameter [.int a.toInt32, .int q, .int b.toInt32]) ∈ A ∧ own_good xs a b q
theorem own_P.sub {A B : List Own.Ent} {xs : List Int32} {r : Addr} (h : own_P A xs r) (s : Own.Sub A B) : own_P B xs r := by obtain ⟨a, b, q, h1, h2⟩ := h; exact ⟨a, b, q, s _ h1, h2⟩
theorem own_ix_spec (z : Int32) (xs : List Int32) : ∀ (m k : Nat), k + m = xs.length → (∀ j, own_ix z (xs.drop k) k = some j → k ≤ j ∧ j < xs.length ∧ xs[j]? = some z ∧ ∀ i, k ≤ i → i < j → xs[i]? ≠ some z) ∧ (own_ix z (xs.drop k) k = none → ∀ i, k ≤ i → xs[i]? ≠ some z) := by
  intro m
  induction m with
  | zero =>
    intro k hk
    rw [List.drop_eq_nil_of_le (by omega)]
    exact ⟨(fun j h => nomatch h), fun _ i hi => by rw [List.getElem?_eq_none (by omega)]; simp⟩
  | succ m ih =>
    intro k hk
    have hkx : k < xs.length := by omega
    rw [List.drop_eq_getElem_cons hkx, own_ix]
    obtain ⟨ih1, ih2⟩ := ih (k + 1) (by omega)
    by_cases hz : xs[k] = z
    · rw [if_pos hz]
      refine ⟨fun j h => ?_, (fun h => nomatch h)⟩
      cases h
      exact ⟨Nat.le_refl _, hkx, by rw [List.getElem?_eq_getElem hkx, hz], fun i h1 h2 => absurd h1 (by omega)⟩
    · rw [if_neg hz]
      have hk0 : xs[k]? ≠ some z := by rw [List.getElem?_eq_getElem hkx]; exact fun q => hz (Option.some.inj q)
      refine ⟨fun j h => ?_, fun h i hi => ?_⟩
      · obtain ⟨g1, g2, g3, g4⟩ := ih1 j h
        refine ⟨by omega, g2, g3, fun i h1 h2 => ?_⟩
        rcases Nat.eq_or_lt_of_le h1 with rfl | h1
        · exact hk0
        · exact g4 i h1 h2
      · rcases Nat.eq_or_lt_of_le hi with rfl | hi
        · exact hk0
        · exact ih2 h i hi
theorem own_perm3 {a b c : Own.Ent} {l : List Own.Ent} : (a :: b :: c :: l).Perm (b :: c :: a :: l) := (List.perm_middle (l₁ := [b, c])).symm
theorem own_m1 {b : Nat} (h : b < 2147483648) : own_iz none < b.toInt32 := by
  rw [Int32.lt_iff_toInt_lt, Own.n_toInt h]
  have : (own_iz none).toInt = -1 := rfl
  omega
theorem d8_0 : decode prog_78_method_2_code 0 = .ok (.new 19, 3) := by decide +kernel
theorem d8_3 : decode prog_78_method_2_code 3 = .ok (.dup, 1) := by decide +kernel
theorem d8_4 : decode prog_78_method_2_code 4 = .ok (.invokespecial 21, 3) := by decide +kernel
theorem d8_7 : decode prog_78_method_2_code 7 = .ok (.astore_n 1, 1) := by decide +kernel
theorem d8_8 : decode prog_78_method_2_code 8 = .ok (.aload_n 0, 1) := by decide +kernel
theorem d8_9 : decode prog_78_method_2_code 9 = .ok (.bipush 63, 2) := by decide +kernel
theorem d8_11 : decode prog_78_method_2_code 11 = .ok (.invokevirtual 22, 3) := by decide +kernel
theorem pd_87992008 : parseMethodDescriptor "(I)I" = some ⟨[.int], some .int⟩ := by decide +kernel
theorem d8_14 : decode prog_78_method_2_code 14 = .ok (.istore_n 2, 1) := by decide +kernel
theorem d8_15 : decode prog_78_method_2_code 15 = .ok (.iload_n 2, 1) := by decide +kernel
theorem d8_16 : decode prog_78_method_2_code 16 = .ok (.ifCond .ge 5, 3) := by decide +kernel
theorem d8_21 : decode prog_78_method_2_code 21 = .ok (.iload_n 2, 1) := by decide +kernel
theorem d8_22 : decode prog_78_method_2_code 22 = .ok (.iconst 1, 1) := by decide +kernel
theorem d8_23 : decode prog_78_method_2_code 23 = .ok (.iadd, 1) := by decide +kernel
theorem d8_24 : decode prog_78_method_2_code 24 = .ok (.istore_n 3, 1) := by decide +kernel
theorem d8_25 : decode prog_78_method_2_code 25 = .ok (.iload_n 3, 1) := by decide +kernel
theorem d8_26 : decode prog_78_method_2_code 26 = .ok (.aload_n 0, 1) := by decide +kernel
theorem d8_27 : decode prog_78_method_2_code 27 = .ok (.invokevirtual 28, 3) := by decide +kernel
theorem d8_30 : decode prog_78_method_2_code 30 = .ok (.if_icmp .ge 70, 3) := by decide +kernel
theorem d8_33 : decode prog_78_method_2_code 33 = .ok (.aload_n 0, 1) := by decide +kernel
theorem d8_34 : decode prog_78_method_2_code 34 = .ok (.bipush 38, 2) := by decide +kernel
theorem d8_36 : decode prog_78_method_2_code 36 = .ok (.iload_n 3, 1) := by decide +kernel
theorem d8_37 : decode prog_78_method_2_code 37 = .ok (.invokevirtual 32, 3) := by decide +kernel
theorem d8_40 : decode prog_78_method_2_code 40 = .ok (.istore 4, 2) := by decide +kernel
theorem d8_42 : decode prog_78_method_2_code 42 = .ok (.iload 4, 2) := by decide +kernel
theorem d8_44 : decode prog_78_method_2_code 44 = .ok (.ifCond .ge 9, 3) := by decide +kernel
theorem d8_47 : decode prog_78_method_2_code 47 = .ok (.aload_n 0, 1) := by decide +kernel
theorem d8_48 : decode prog_78_method_2_code 48 = .ok (.invokevirtual 28, 3) := by decide +kernel
theorem d8_51 : decode prog_78_method_2_code 51 = .ok (.istore 4, 2) := by decide +kernel
theorem d8_53 : decode prog_78_method_2_code 53 = .ok (.aload_n 0, 1) := by decide +kernel
theorem d8_54 : decode prog_78_method_2_code 54 = .ok (.bipush 61, 2) := by decide +kernel
theorem d8_56 : decode prog_78_method_2_code 56 = .ok (.iload_n 3, 1) := by decide +kernel
theorem d8_57 : decode prog_78_method_2_code 57 = .ok (.invokevirtual 32, 3) := by decide +kernel
theorem d8_60 : decode prog_78_method_2_code 60 = .ok (.istore 5, 2) := by decide +kernel
theorem d8_62 : decode prog_78_method_2_code 62 = .ok (.aload_n 1, 1) := by decide +kernel
theorem d8_63 : decode prog_78_method_2_code 63 = .ok (.new 8, 3) := by decide +kernel
theorem d8_66 : decode prog_78_method_2_code 66 = .ok (.dup, 1) := by decide +kernel
theorem d8_67 : decode prog_78_method_2_code 67 = .ok (.iload_n 3, 1) := by decide +kernel
theorem d8_68 : decode prog_78_method_2_code 68 = .ok (.iload 5, 2) := by decide +kernel
theorem d8_70 : decode prog_78_method_2_code 70 = .ok (.iload 4, 2) := by decide +kernel
theorem d8_72 : decode prog_78_method_2_code 72 = .ok (.if_icmp .ge 8, 3) := by decide +kernel
theorem d8_75 : decode prog_78_method_2_code 75 = .ok (.iload 5, 2) := by decide +kernel
theorem d8_77 : decode prog_78_method_2_code 77 = .ok (.goto 4, 3) := by decide +kernel
theorem d8_80 : decode prog_78_method_2_code 80 = .ok (.iconst (-1), 1) := by decide +kernel
theorem d8_81 : decode prog_78_method_2_code 81 = .ok (.iload 4, 2) := by decide +kernel
theorem d8_83 : decode prog_78_method_2_code 83 = .ok (.invokespecial 35, 3) := by decide +kernel
theorem pd_86748551 : parseMethodDescriptor "(III)V" = some ⟨[.int, .int, .int], none⟩ := by decide +kernel
theorem d8_86 : decode prog_78_method_2_code 86 = .ok (.invokeinterface 38 2, 5) := by decide +kernel
theorem pd_96412080 : parseMethodDescriptor "(Ljava/lang/Object;)Z" = some ⟨[(.object "java/lang/Object")], some .boolean⟩ := by decide +kernel
theorem d8_91 : decode prog_78_method_2_code 91 = .ok (.pop, 1) := by decide +kernel
theorem d8_92 : decode prog_78_method_2_code 92 = .ok (.iload 4, 2) := by decide +kernel
theorem d8_94 : decode prog_78_method_2_code 94 = .ok (.iconst 1, 1) := by decide +kernel
theorem d8_95 : decode prog_78_method_2_code 95 = .ok (.iadd, 1) := by decide +kernel
theorem d8_96 : decode prog_78_method_2_code 96 = .ok (.istore_n 3, 1) := by decide +kernel
theorem d8_97 : decode prog_78_method_2_code 97 = .ok (.goto (-72), 3) := by decide +kernel
theorem d8_100 : decode prog_78_method_2_code 100 = .ok (.aload_n 1, 1) := by decide +kernel
theorem d8_101 : decode prog_78_method_2_code 101 = .ok (.areturn, 1) := by decide +kernel
theorem pn_84146494 : plainFor (⟨"com/example/stairwell/stairwell/sql/UrlParameter", "in", "(Ljava/lang/String;)Ljava/util/List;"⟩ : MethodName) = true := by first | exact plainFor_of_name (by first | (simp [plainName, overriddenIn]; done) | decide +kernel) | decide +kernel
set_option maxRecDepth 65536 in
set_option maxHeartbeats 4000000 in
theorem ct_in (G : Own.Gx) (hw : ∀ d ∈ tables_1, d.before G.a0 G.Z = true) (hC : Own.CSt G) (df : Addr) (hD : Dflt G df) {As : List Own.Ent} {Li : List Own.LitE} (s : Addr) (xs : List Int32) (hx4 : xs.length = 4) (hx0 : xs[0]? = some 63) (hs : Own.StrF As s (xs.map Value.int)) :
    Own.Ct G [] (⟨"com/example/stairwell/stairwell/sql/UrlParameter", "in", "(Ljava/lang/String;)Ljava/util/List;"⟩ : MethodName) prog_78_method_2_code 6 (some (.object "java/util/List")) ({ frames := 5, cells := 7, slots := 42, locals := 69 } : Room) [.ref s] As Li (fun v A L => ∃ (l d : Addr) (mc : Int32) (rs : List Addr) (A0 : List Own.Ent), v = some (.ref l) ∧ A = (l, true, Own.obj "java/util/ArrayList" F_java_util_ArrayList [.int mc, .ref d, .int rs.length.toInt32]) :: (d, true, Own.arr (.object "java/lang/Object") (own_al rs)) :: A0 ∧ Own.Sub As A0 ∧ 1 ≤ rs.length ∧ rs.length ≤ 3 ∧ (∀ r ∈ rs, own_P A0 xs r) ∧ Li = L) := by
  refine Own.Ct.intro pn_84146494 (Ls := [.val (.ref s), .unset, .unset, .unset, .unset, .unset]) rfl rfl ?_
  intro K
  have h63 : own_ix 63 xs 0 = some 0 := by
    obtain ⟨y, ys, hys⟩ : ∃ y ys, xs = y :: ys := by
      cases xs with
      | nil => simp at hx4
      | cons y ys => exact ⟨y, ys, rfl⟩
    subst hys
    simp at hx0
    simp [own_ix, hx0]
  refine Own.W.new (pc := 0) (hw _ (List.mem_of_getElem? (i := 38) rfl)) (hw _ (List.mem_of_getElem? (i := 39) rfl)) (hw _ (List.mem_of_getElem? (i := 40) rfl)) d8_0 (LF_java_util_ArrayList G hw) (vs := [.int 0, .null, .int 0]) (by decide) (by first | exact Nat.le_of_ble_eq_true rfl | (simp; done) | (simp; omega)) (by first | exact Nat.le_of_ble_eq_true rfl | (simp; done) | (simp; omega)) ?_
  intro o0
  refine Own.W.dup (pc := 3) d8_3 rfl ?_
  refine Own.W.callI (pc := 4) (ct_ali G hw df hD o0) d8_4 rfl (hw _ (List.mem_of_getElem? (i := 41) rfl)) (hw _ (List.mem_of_getElem? (i := 42) rfl)) (hw _ (List.mem_of_getElem? (i := 40) rfl)) (hw _ (List.mem_of_getElem? (i := 43) rfl)) (by decide) pd_93421996 rfl rfl (Nat.le_of_ble_eq_true rfl) (Nat.le_of_ble_eq_true rfl) (by first | exact Nat.le_of_ble_eq_true rfl | (simp; done) | (simp; omega)) (by first | exact Nat.le_of_ble_eq_true rfl | (simp; done) | (simp; omega)) ?_
  rintro _ _ _ ⟨rfl, rfl, rfl⟩
  refine Own.W.astoreN (pc := 7) (Ls' := [_, _, _, _, _, _]) d8_7 rfl rfl rfl ?_
  refine Own.W.aloadN (pc := 8) d8_8 rfl rfl ?_
  refine Own.W.bipush (pc := 9) (z := (63 : Int32)) d8_9 (by decide) ?_
  refine Own.W.callV (pc := 11) (ct_si1 G hw hC s xs (by omega) 63 (by decide) (by decide) (by decide) (hs.sub (Own.Sub.cons (Own.Sub.refl _))).str) d8_11 (C := "java/lang/String") (hs.sub (Own.Sub.cons (Own.Sub.refl _))).is (hw _ (List.mem_of_getElem? (i := 62) rfl)) (hw _ (List.mem_of_getElem? (i := 63) rfl)) (Own.nf_sel (hw _ (List.mem_of_getElem? (i := 65) rfl))) (hw _ (List.mem_of_getElem? (i := 65) rfl)) (hw _ (List.mem_of_getElem? (i := 64) rfl)) (hw _ (List.mem_of_getElem? (i := 7) rfl)) (hw _ (List.mem_of_getElem? (i := 66) rfl)) (by decide) pd_87992008 rfl rfl (Nat.le_of_ble_eq_true rfl) (Nat.le_of_ble_eq_true rfl) (by first | exact Nat.le_of_ble_eq_true rfl | (simp; done) | (simp; omega)) (by first | exact Nat.le_of_ble_eq_true rfl | (simp; done) | (simp; omega)) ?_
  rintro _ _ _ ⟨rfl, rfl, rfl⟩
  rw [h63]
  refine Own.W.istoreN (pc := 14) (Ls' := [_, _, _, _, _, _]) d8_14 rfl rfl ?_
  refine Own.W.iloadN (pc := 15) d8_15 rfl ?_
  refine Own.W.if_ge (pc := 16) 21 d8_16 (by decide) (by decide) ?_ (fun h16 => absurd h16 (by decide))
  intro h16
  refine Own.W.iloadN (pc := 21) d8_21 rfl ?_
  refine Own.W.iconst (pc := 22) (z := (1 : Int32)) d8_22 (by decide) ?_
  refine Own.W.iadd (pc := 23) d8_23 (z := (1 : Nat).toInt32) (by decide) ?_
  refine Own.W.istoreN (pc := 24) (Ls' := [_, _, _, _, _, _]) d8_24 rfl rfl ?_
  suffices loop : ∀ (m at_ : Nat) (rs : List Addr) (A0 : List Own.Ent) (d : Addr) (mc i2 e5 e6 : Int32), xs.length ≤ at_ + m → rs.length + 1 ≤ at_ → at_ ≤ 5 → 1 ≤ rs.length → rs.length ≤ 3 → Own.Sub As A0 → (∀ r ∈ rs, own_P A0 xs r) → Own.W G K (⟨"com/example/stairwell/stairwell/sql/UrlParameter", "in", "(Ljava/lang/String;)Ljava/util/List;"⟩ : MethodName) prog_78_method_2_code (some (.object "java/util/List")) ({ frames := 5, cells := 7, slots := 42, locals := 69 } : Room) (fun v A L => ∃ (l d : Addr) (mc : Int32) (rs : List Addr) (A0 : List Own.Ent), v = some (.ref l) ∧ A = (l, true, Own.obj "java/util/ArrayList" F_java_util_ArrayList [.int mc, .ref d, .int rs.length.toInt32]) :: (d, true, Own.arr (.object "java/lang/Object") (own_al rs)) :: A0 ∧ Own.Sub As A0 ∧ 1 ≤ rs.length ∧ rs.length ≤ 3 ∧ (∀ r ∈ rs, own_P A0 xs r) ∧ Li = L) ((o0, true, Own.obj "java/util/ArrayList" F_java_util_ArrayList [.int mc, .ref d, .int rs.length.toInt32]) :: (d, true, Own.arr (.object "java/lang/Object") (own_al rs)) :: A0) Li (1 + 2 * rs.length) (3 + 13 * rs.length) 25 [.val (.ref s), .val (.ref o0), .val (.int i2), .val (.int at_.toInt32), .val (.int e5), .val (.int e6)] [] by
    suffices T1 : ∀ (i2 : Int32) (at_ : Nat), at_ = 1 → Own.W G K (⟨"com/example/stairwell/stairwell/sql/UrlParameter", "in", "(Ljava/lang/String;)Ljava/util/List;"⟩ : MethodName) prog_78_method_2_code (some (.object "java/util/List")) ({ frames := 5, cells := 7, slots := 42, locals := 69 } : Room) (fun v A L => ∃ (l d : Addr) (mc : Int32) (rs : List Addr) (A0 : List Own.Ent), v = some (.ref l) ∧ A = (l, true, Own.obj "java/util/ArrayList" F_java_util_ArrayList [.int mc, .ref d, .int rs.length.toInt32]) :: (d, true, Own.arr (.object "java/lang/Object") (own_al rs)) :: A0 ∧ Own.Sub As A0 ∧ 1 ≤ rs.length ∧ rs.length ≤ 3 ∧ (∀ r ∈ rs, own_P A0 xs r) ∧ Li = L) ((o0, true, Own.obj "java/util/ArrayList" F_java_util_ArrayList [.int 0, .ref df, .int 0]) :: As) Li 1 3 25 [.val (.ref s), .val (.ref o0), .val (.int i2), .val (.int at_.toInt32), .unset, .unset] [] from T1 _ 1 rfl
    intro i2 at_ hat1
    have hat : at_ < xs.length := by omega
    refine Own.W.iloadN (pc := 25) d8_25 rfl ?_
    refine Own.W.aloadN (pc := 26) d8_26 rfl rfl ?_
    refine Own.W.callV (pc := 27) (ct_slen G hw hC s _ xs.length.toInt32 (hs.sub (Own.Sub.cons (Own.Sub.refl _))).str (by simp)) d8_27 (C := "java/lang/String") (hs.sub (Own.Sub.cons (Own.Sub.refl _))).is (hw _ (List.mem_of_getElem? (i := 104) rfl)) (hw _ (List.mem_of_getElem? (i := 78) rfl)) (Own.nf_sel (hw _ (List.mem_of_getElem? (i := 80) rfl))) (hw _ (List.mem_of_getElem? (i := 80) rfl)) (hw _ (List.mem_of_getElem? (i := 79) rfl)) (hw _ (List.mem_of_getElem? (i := 7) rfl)) (hw _ (List.mem_of_getElem? (i := 81) rfl)) (by decide) pd_93421983 rfl rfl (Nat.le_of_ble_eq_true rfl) (Nat.le_of_ble_eq_true rfl) (by first | exact Nat.le_of_ble_eq_true rfl | (simp; done) | (simp; omega)) (by first | exact Nat.le_of_ble_eq_true rfl | (simp; done) | (simp; omega)) ?_
    rintro _ _ _ ⟨rfl, rfl, rfl⟩
    refine Own.W.ic_ge (pc := 30) 100 d8_30 (by decide) (by decide) (fun h30 => absurd h30 (fun q => q (Own.n_lt hat (by omega)))) ?_
    intro h30
    refine Own.W.aloadN (pc := 33) d8_33 rfl rfl ?_
    refine Own.W.bipush (pc := 34) (z := (38 : Int32)) d8_34 (by decide) ?_
    refine Own.W.iloadN (pc := 36) d8_36 rfl ?_
    refine Own.W.callV (pc := 37) (ct_sio G hw hC s xs (by omega) 38 at_ (by decide) (by decide) (by decide) (by omega) (hs.sub (Own.Sub.cons (Own.Sub.refl _))).str) d8_37 (C := "java/lang/String") (hs.sub (Own.Sub.cons (Own.Sub.refl _))).is (hw _ (List.mem_of_getElem? (i := 105) rfl)) (hw _ (List.mem_of_getElem? (i := 68) rfl)) (Own.nf_sel (hw _ (List.mem_of_getElem? (i := 70) rfl))) (hw _ (List.mem_of_getElem? (i := 70) rfl)) (hw _ (List.mem_of_getElem? (i := 69) rfl)) (hw _ (List.mem_of_getElem? (i := 7) rfl)) (hw _ (List.mem_of_getElem? (i := 71) rfl)) (by decide) pd_84293393 rfl rfl (Nat.le_of_ble_eq_true rfl) (Nat.le_of_ble_eq_true rfl) (by first | exact Nat.le_of_ble_eq_true rfl | (simp; done) | (simp; omega)) (by first | exact Nat.le_of_ble_eq_true rfl | (simp; done) | (simp; omega)) ?_
    rintro _ _ _ ⟨rfl, rfl, rfl⟩
    obtain ⟨ix1, ix2⟩ := own_ix_spec 38 xs (xs.length - at_) at_ (by omega)
    obtain ⟨jx1, jx2⟩ := own_ix_spec 61 xs (xs.length - at_) at_ (by omega)
    suffices J53 : ∀ b : Nat, at_ ≤ b → b ≤ xs.length → Own.W G K (⟨"com/example/stairwell/stairwell/sql/UrlParameter", "in", "(Ljava/lang/String;)Ljava/util/List;"⟩ : MethodName) prog_78_method_2_code (some (.object "java/util/List")) ({ frames := 5, cells := 7, slots := 42, locals := 69 } : Room) (fun v A L => ∃ (l d : Addr) (mc : Int32) (rs : List Addr) (A0 : List Own.Ent), v = some (.ref l) ∧ A = (l, true, Own.obj "java/util/ArrayList" F_java_util_ArrayList [.int mc, .ref d, .int rs.length.toInt32]) :: (d, true, Own.arr (.object "java/lang/Object") (own_al rs)) :: A0 ∧ Own.Sub As A0 ∧ 1 ≤ rs.length ∧ rs.length ≤ 3 ∧ (∀ r ∈ rs, own_P A0 xs r) ∧ Li = L) ((o0, true, Own.obj "java/util/ArrayList" F_java_util_ArrayList [.int 0, .ref df, .int 0]) :: As) Li 1 3 53 [.val (.ref s), .val (.ref o0), .val (.int i2), .val (.int at_.toInt32), .val (.int b.toInt32), .unset] [] by
      cases ho : own_ix 38 (xs.drop at_) at_ with
      | none =>
        refine Own.W.istore (pc := 40) (Ls' := [_, _, _, _, _, _]) d8_40 rfl rfl ?_
        refine Own.W.iload (pc := 42) d8_42 rfl ?_
        refine Own.W.if_ge (pc := 44) 53 d8_44 (by decide) (by decide) (fun h44 => absurd h44 (fun q => q (by decide))) ?_
        intro h44
        refine Own.W.aloadN (pc := 47) d8_47 rfl rfl ?_
        refine Own.W.callV (pc := 48) (ct_slen G hw hC s _ xs.length.toInt32 (hs.sub (Own.Sub.cons (Own.Sub.refl _))).str (by simp)) d8_48 (C := "java/lang/String") (hs.sub (Own.Sub.cons (Own.Sub.refl _))).is (hw _ (List.mem_of_getElem? (i := 104) rfl)) (hw _ (List.mem_of_getElem? (i := 78) rfl)) (Own.nf_sel (hw _ (List.mem_of_getElem? (i := 80) rfl))) (hw _ (List.mem_of_getElem? (i := 80) rfl)) (hw _ (List.mem_of_getElem? (i := 79) rfl)) (hw _ (List.mem_of_getElem? (i := 7) rfl)) (hw _ (List.mem_of_getElem? (i := 81) rfl)) (by decide) pd_93421983 rfl rfl (Nat.le_of_ble_eq_true rfl) (Nat.le_of_ble_eq_true rfl) (by first | exact Nat.le_of_ble_eq_true rfl | (simp; done) | (simp; omega)) (by first | exact Nat.le_of_ble_eq_true rfl | (simp; done) | (simp; omega)) ?_
        rintro _ _ _ ⟨rfl, rfl, rfl⟩
        refine Own.W.istore (pc := 51) (Ls' := [_, _, _, _, _, _]) d8_51 rfl rfl ?_
        exact J53 _ (by omega) (Nat.le_refl _)
      | some j =>
        obtain ⟨g1, g2, -, -⟩ := ix1 j ho
        refine Own.W.istore (pc := 40) (Ls' := [_, _, _, _, _, _]) d8_40 rfl rfl ?_
        refine Own.W.iload (pc := 42) d8_42 rfl ?_
        refine Own.W.if_ge (pc := 44) 53 d8_44 (by decide) (by decide) ?_ (fun h44 => absurd h44 (Own.n_nn (by omega)))
        intro h44
        exact J53 j g1 (by omega)
    intro b hab hbx
    refine Own.W.aloadN (pc := 53) d8_53 rfl rfl ?_
    refine Own.W.bipush (pc := 54) (z := (61 : Int32)) d8_54 (by decide) ?_
    refine Own.W.iloadN (pc := 56) d8_56 rfl ?_
    refine Own.W.callV (pc := 57) (ct_sio G hw hC s xs (by omega) 61 at_ (by decide) (by decide) (by decide) (by omega) (hs.sub (Own.Sub.cons (Own.Sub.refl _))).str) d8_57 (C := "java/lang/String") (hs.sub (Own.Sub.cons (Own.Sub.refl _))).is (hw _ (List.mem_of_getElem? (i := 105) rfl)) (hw _ (List.mem_of_getElem? (i := 68) rfl)) (Own.nf_sel (hw _ (List.mem_of_getElem? (i := 70) rfl))) (hw _ (List.mem_of_getElem? (i := 70) rfl)) (hw _ (List.mem_of_getElem? (i := 69) rfl)) (hw _ (List.mem_of_getElem? (i := 7) rfl)) (hw _ (List.mem_of_getElem? (i := 71) rfl)) (by decide) pd_84293393 rfl rfl (Nat.le_of_ble_eq_true rfl) (Nat.le_of_ble_eq_true rfl) (by first | exact Nat.le_of_ble_eq_true rfl | (simp; done) | (simp; omega)) (by first | exact Nat.le_of_ble_eq_true rfl | (simp; done) | (simp; omega)) ?_
    rintro _ _ _ ⟨rfl, rfl, rfl⟩
    refine Own.W.istore (pc := 60) (Ls' := [_, _, _, _, _, _]) d8_60 rfl rfl ?_
    refine Own.W.aloadN (pc := 62) d8_62 rfl rfl ?_
    refine Own.W.new (pc := 63) (hw _ (List.mem_of_getElem? (i := 106) rfl)) (hw _ (List.mem_of_getElem? (i := 107) rfl)) (hw _ (List.mem_of_getElem? (i := 36) rfl)) d8_63 (LF_com_example_stairwell_stairwell_sql_UrlParameter G hw) (vs := [.int 0, .int 0, .int 0]) (by decide) (by first | exact Nat.le_of_ble_eq_true rfl | (simp; done) | (simp; omega)) (by first | exact Nat.le_of_ble_eq_true rfl | (simp; done) | (simp; omega)) ?_
    intro o63
    refine Own.W.dup (pc := 66) d8_66 rfl ?_
    refine Own.W.iloadN (pc := 67) d8_67 rfl ?_
    refine Own.W.iload (pc := 68) d8_68 rfl ?_
    refine Own.W.iload (pc := 70) d8_70 rfl ?_
    suffices J81 : ∀ q : Int32, own_good xs at_ b q → Own.W G K (⟨"com/example/stairwell/stairwell/sql/UrlParameter", "in", "(Ljava/lang/String;)Ljava/util/List;"⟩ : MethodName) prog_78_method_2_code (some (.object "java/util/List")) ({ frames := 5, cells := 7, slots := 42, locals := 69 } : Room) (fun v A L => ∃ (l d : Addr) (mc : Int32) (rs : List Addr) (A0 : List Own.Ent), v = some (.ref l) ∧ A = (l, true, Own.obj "java/util/ArrayList" F_java_util_ArrayList [.int mc, .ref d, .int rs.length.toInt32]) :: (d, true, Own.arr (.object "java/lang/Object") (own_al rs)) :: A0 ∧ Own.Sub As A0 ∧ 1 ≤ rs.length ∧ rs.length ≤ 3 ∧ (∀ r ∈ rs, own_P A0 xs r) ∧ Li = L) ((o63, true, Own.obj "com/example/stairwell/stairwell/sql/UrlParameter" F_com_example_stairwell_stairwell_sql_UrlParameter [.int 0, .int 0, .int 0]) :: (o0, true, Own.obj "java/util/ArrayList" F_java_util_ArrayList [.int 0, .ref df, .int 0]) :: As) Li (1 + 1) (3 + 3) 81 [.val (.ref s), .val (.ref o0), .val (.int i2), .val (.int at_.toInt32), .val (.int b.toInt32), .val (.int (own_iz (own_ix 61 (xs.drop at_) at_)))] [.int q, .int at_.toInt32, .ref o63, .ref o63, .ref o0] by
      cases hp : own_ix 61 (xs.drop at_) at_ with
      | none =>
        rw [hp] at J81
        refine Own.W.ic_ge (pc := 72) 80 d8_72 (by decide) (by decide) (fun h72 => absurd h72 (fun q => q (own_m1 (by omega)))) ?_
        intro h72
        refine Own.W.iload (pc := 75) d8_75 rfl ?_
        refine Own.W.goto (pc := 77) 81 d8_77 (by decide) (by decide) ?_
        exact J81 _ ⟨by omega, hab, hbx, fun h => absurd (by decide) h, fun ⟨k, h1, h2, h3⟩ => absurd h3 (jx2 hp k h1)⟩
      | some j =>
        rw [hp] at J81
        obtain ⟨g1, g2, g3, g4⟩ := jx1 j hp
        by_cases hjb : j < b
        · refine Own.W.ic_ge (pc := 72) 80 d8_72 (by decide) (by decide) (fun h72 => absurd h72 (fun q => q (Own.n_lt hjb (by omega)))) ?_
          intro h72
          refine Own.W.iload (pc := 75) d8_75 rfl ?_
          refine Own.W.goto (pc := 77) 81 d8_77 (by decide) (by decide) ?_
          exact J81 _ ⟨by omega, hab, hbx, fun _ => ⟨j, g1, hjb, g3⟩, fun _ => Own.n_nn (by omega)⟩
        · refine Own.W.ic_ge (pc := 72) 80 d8_72 (by decide) (by decide) ?_ (fun h72 => absurd h72 (Own.n_nlt (by omega) (by omega)))
          intro h72
          refine Own.W.iconst (pc := 80) (z := (-1 : Int32)) d8_80 (by decide) ?_
          exact J81 _ ⟨by omega, hab, hbx, fun h => absurd (by decide) h, fun ⟨k, h1, h2, h3⟩ => absurd h3 (g4 k h1 (by omega))⟩
    intro q hq
    refine Own.W.iload (pc := 81) d8_81 rfl ?_
    refine Own.W.callI (pc := 83) (ct_upi G hw o63 _ q _) d8_83 rfl (hw _ (List.mem_of_getElem? (i := 108) rfl)) (hw _ (List.mem_of_getElem? (i := 109) rfl)) (hw _ (List.mem_of_getElem? (i := 36) rfl)) (hw _ (List.mem_of_getElem? (i := 110) rfl)) (by decide) pd_86748551 rfl rfl (Nat.le_of_ble_eq_true rfl) (Nat.le_of_ble_eq_true rfl) (by first | exact Nat.le_of_ble_eq_true rfl | (simp; done) | (simp; omega)) (by first | exact Nat.le_of_ble_eq_true rfl | (simp; done) | (simp; omega)) ?_
    rintro _ _ _ ⟨rfl, rfl, rfl⟩
    refine Own.W.frz Own.Frz.head ?_
    refine Own.W.perm ?_ (List.Perm.swap _ _ _)
    refine Own.W.callF (pc := 86) (ct_adE G hw df hD o0 _ o63 (Own.Is.mem (List.Mem.head _))) d8_86 (C := "java/util/ArrayList") (Own.Is.mem (by repeat (first | exact List.Mem.head _ | assumption | exact List.mem_append_right _ (List.Mem.head _) | apply List.Mem.tail))) (hw _ (List.mem_of_getElem? (i := 123) rfl)) (hw _ (List.mem_of_getElem? (i := 124) rfl)) (hw _ (List.mem_of_getElem? (i := 125) rfl)) (hw _ (List.mem_of_getElem? (i := 126) rfl)) (hw _ (List.mem_of_getElem? (i := 127) rfl)) (hw _ (List.mem_of_getElem? (i := 128) rfl)) (hw _ (List.mem_of_getElem? (i := 129) rfl)) (hw _ (List.mem_of_getElem? (i := 130) rfl)) (hw _ (List.mem_of_getElem? (i := 40) rfl)) (hw _ (List.mem_of_getElem? (i := 131) rfl)) (by decide) (by first | rfl | simp [Cond.onTables, Cond.keepsFace, Cond.keeps, Cond.steady]) pd_96412080 rfl rfl (Nat.le_of_ble_eq_true rfl) (Nat.le_of_ble_eq_true rfl) (by first | exact Nat.le_of_ble_eq_true rfl | (simp; done) | (simp; omega)) (by first | exact Nat.le_of_ble_eq_true rfl | (simp; done) | (simp; omega)) ?_
    rintro _ _ _ ⟨d, m2, rfl, rfl, rfl⟩
    refine Own.W.pop (pc := 91) d8_91 rfl ?_
    refine Own.W.iload (pc := 92) d8_92 rfl ?_
    refine Own.W.iconst (pc := 94) (z := (1 : Int32)) d8_94 (by decide) ?_
    refine Own.W.iadd (pc := 95) d8_95 (z := (b + 1).toInt32) (Own.n_succ _) ?_
    refine Own.W.istoreN (pc := 96) (Ls' := [_, _, _, _, _, _]) d8_96 rfl rfl ?_
    refine Own.W.goto (pc := 97) 25 d8_97 (by decide) (by decide) ?_
    exact Own.W.mono (loop 4 (b + 1) [o63] ((o63, false, Own.obj "com/example/stairwell/stairwell/sql/UrlParameter" F_com_example_stairwell_stairwell_sql_UrlParameter [.int at_.toInt32, .int q, .int b.toInt32]) :: As) d m2 _ _ _ (by omega) (by simp; omega) (by omega) (by simp) (by simp) (Own.Sub.cons (Own.Sub.refl _)) (fun r hr => by cases List.mem_singleton.mp hr; exact ⟨at_, b, q, List.Mem.head _, hq⟩)) (Nat.le_of_ble_eq_true rfl) (Nat.le_of_ble_eq_true rfl)
  intro m
  induction m with
  | zero =>
    intro at_ rs A0 d mc i2 e5 e6 h1 h2 h3 h4 h5 hS hP
    refine Own.W.iloadN (pc := 25) d8_25 rfl ?_
    refine Own.W.aloadN (pc := 26) d8_26 rfl rfl ?_
    refine Own.W.callV (pc := 27) (ct_slen G hw hC s _ xs.length.toInt32 (hs.sub (Own.Sub.cons (Own.Sub.cons hS))).str (by simp)) d8_27 (C := "java/lang/String") (hs.sub (Own.Sub.cons (Own.Sub.cons hS))).is (hw _ (List.mem_of_getElem? (i := 104) rfl)) (hw _ (List.mem_of_getElem? (i := 78) rfl)) (Own.nf_sel (hw _ (List.mem_of_getElem? (i := 80) rfl))) (hw _ (List.mem_of_getElem? (i := 80) rfl)) (hw _ (List.mem_of_getElem? (i := 79) rfl)) (hw _ (List.mem_of_getElem? (i := 7) rfl)) (hw _ (List.mem_of_getElem? (i := 81) rfl)) (by decide) pd_93421983 rfl rfl (Nat.le_of_ble_eq_true rfl) (Nat.le_of_ble_eq_true rfl) (by first | exact Nat.le_of_ble_eq_true rfl | (simp; done) | (simp; omega)) (by first | exact Nat.le_of_ble_eq_true rfl | (simp; done) | (simp; omega)) ?_
    rintro _ _ _ ⟨rfl, rfl, rfl⟩
    refine Own.W.ic_ge (pc := 30) 100 d8_30 (by decide) (by decide) ?_ (fun h30 => absurd h30 (Own.n_nlt (by omega) (by omega)))
    intro h30
    refine Own.W.aloadN (pc := 100) d8_100 rfl rfl ?_
    refine Own.W.aret (pc := 101) d8_101 rfl rfl rfl ?_ (by first | exact Nat.le_of_ble_eq_true rfl | (simp; done) | (simp; omega)) (by first | exact Nat.le_of_ble_eq_true rfl | (simp; done) | (simp; omega))
    exact ⟨_, _, _, _, _, rfl, rfl, hS, h4, h5, hP, rfl⟩
  | succ m ih =>
    intro at_ rs A0 d mc i2 e5 e6 h1 h2 h3 h4 h5 hS hP
    by_cases hat : at_ < xs.length
    · refine Own.W.iloadN (pc := 25) d8_25 rfl ?_
      refine Own.W.aloadN (pc := 26) d8_26 rfl rfl ?_
      refine Own.W.callV (pc := 27) (ct_slen G hw hC s _ xs.length.toInt32 (hs.sub (Own.Sub.cons (Own.Sub.cons hS))).str (by simp)) d8_27 (C := "java/lang/String") (hs.sub (Own.Sub.cons (Own.Sub.cons hS))).is (hw _ (List.mem_of_getElem? (i := 104) rfl)) (hw _ (List.mem_of_getElem? (i := 78) rfl)) (Own.nf_sel (hw _ (List.mem_of_getElem? (i := 80) rfl))) (hw _ (List.mem_of_getElem? (i := 80) rfl)) (hw _ (List.mem_of_getElem? (i := 79) rfl)) (hw _ (List.mem_of_getElem? (i := 7) rfl)) (hw _ (List.mem_of_getElem? (i := 81) rfl)) (by decide) pd_93421983 rfl rfl (Nat.le_of_ble_eq_true rfl) (Nat.le_of_ble_eq_true rfl) (by first | exact Nat.le_of_ble_eq_true rfl | (simp; done) | (simp; omega)) (by first | exact Nat.le_of_ble_eq_true rfl | (simp; done) | (simp; omega)) ?_
      rintro _ _ _ ⟨rfl, rfl, rfl⟩
      refine Own.W.ic_ge (pc := 30) 100 d8_30 (by decide) (by decide) (fun h30 => absurd h30 (fun q => q (Own.n_lt hat (by omega)))) ?_
      intro h30
      refine Own.W.aloadN (pc := 33) d8_33 rfl rfl ?_
      refine Own.W.bipush (pc := 34) (z := (38 : Int32)) d8_34 (by decide) ?_
      refine Own.W.iloadN (pc := 36) d8_36 rfl ?_
      refine Own.W.callV (pc := 37) (ct_sio G hw hC s xs (by omega) 38 at_ (by decide) (by decide) (by decide) (by omega) (hs.sub (Own.Sub.cons (Own.Sub.cons hS))).str) d8_37 (C := "java/lang/String") (hs.sub (Own.Sub.cons (Own.Sub.cons hS))).is (hw _ (List.mem_of_getElem? (i := 105) rfl)) (hw _ (List.mem_of_getElem? (i := 68) rfl)) (Own.nf_sel (hw _ (List.mem_of_getElem? (i := 70) rfl))) (hw _ (List.mem_of_getElem? (i := 70) rfl)) (hw _ (List.mem_of_getElem? (i := 69) rfl)) (hw _ (List.mem_of_getElem? (i := 7) rfl)) (hw _ (List.mem_of_getElem? (i := 71) rfl)) (by decide) pd_84293393 rfl rfl (Nat.le_of_ble_eq_true rfl) (Nat.le_of_ble_eq_true rfl) (by first | exact Nat.le_of_ble_eq_true rfl | (simp; done) | (simp; omega)) (by first | exact Nat.le_of_ble_eq_true rfl | (simp; done) | (simp; omega)) ?_
      rintro _ _ _ ⟨rfl, rfl, rfl⟩
      obtain ⟨ix1, ix2⟩ := own_ix_spec 38 xs (xs.length - at_) at_ (by omega)
      obtain ⟨jx1, jx2⟩ := own_ix_spec 61 xs (xs.length - at_) at_ (by omega)
      suffices J53 : ∀ b : Nat, at_ ≤ b → b ≤ xs.length → Own.W G K (⟨"com/example/stairwell/stairwell/sql/UrlParameter", "in", "(Ljava/lang/String;)Ljava/util/List;"⟩ : MethodName) prog_78_method_2_code (some (.object "java/util/List")) ({ frames := 5, cells := 7, slots := 42, locals := 69 } : Room) (fun v A L => ∃ (l d : Addr) (mc : Int32) (rs : List Addr) (A0 : List Own.Ent), v = some (.ref l) ∧ A = (l, true, Own.obj "java/util/ArrayList" F_java_util_ArrayList [.int mc, .ref d, .int rs.length.toInt32]) :: (d, true, Own.arr (.object "java/lang/Object") (own_al rs)) :: A0 ∧ Own.Sub As A0 ∧ 1 ≤ rs.length ∧ rs.length ≤ 3 ∧ (∀ r ∈ rs, own_P A0 xs r) ∧ Li = L) ((o0, true, Own.obj "java/util/ArrayList" F_java_util_ArrayList [.int mc, .ref d, .int rs.length.toInt32]) :: (d, true, Own.arr (.object "java/lang/Object") (own_al rs)) :: A0) Li (1 + 2 * rs.length) (3 + 13 * rs.length) 53 [.val (.ref s), .val (.ref o0), .val (.int i2), .val (.int at_.toInt32), .val (.int b.toInt32), .val (.int e6)] [] by
        cases ho : own_ix 38 (xs.drop at_) at_ with
        | none =>
          refine Own.W.istore (pc := 40) (Ls' := [_, _, _, _, _, _]) d8_40 rfl rfl ?_
          refine Own.W.iload (pc := 42) d8_42 rfl ?_
          refine Own.W.if_ge (pc := 44) 53 d8_44 (by decide) (by decide) (fun h44 => absurd h44 (fun q => q (by decide))) ?_
          intro h44
          refine Own.W.aloadN (pc := 47) d8_47 rfl rfl ?_
          refine Own.W.callV (pc := 48) (ct_slen G hw hC s _ xs.length.toInt32 (hs.sub (Own.Sub.cons (Own.Sub.cons hS))).str (by simp)) d8_48 (C := "java/lang/String") (hs.sub (Own.Sub.cons (Own.Sub.cons hS))).is (hw _ (List.mem_of_getElem? (i := 104) rfl)) (hw _ (List.mem_of_getElem? (i := 78) rfl)) (Own.nf_sel (hw _ (List.mem_of_getElem? (i := 80) rfl))) (hw _ (List.mem_of_getElem? (i := 80) rfl)) (hw _ (List.mem_of_getElem? (i := 79) rfl)) (hw _ (List.mem_of_getElem? (i := 7) rfl)) (hw _ (List.mem_of_getElem? (i := 81) rfl)) (by decide) pd_93421983 rfl rfl (Nat.le_of_ble_eq_true rfl) (Nat.le_of_ble_eq_true rfl) (by first | exact Nat.le_of_ble_eq_true rfl | (simp; done) | (simp; omega)) (by first | exact Nat.le_of_ble_eq_true rfl | (simp; done) | (simp; omega)) ?_
          rintro _ _ _ ⟨rfl, rfl, rfl⟩
          refine Own.W.istore (pc := 51) (Ls' := [_, _, _, _, _, _]) d8_51 rfl rfl ?_
          exact J53 _ (by omega) (Nat.le_refl _)
        | some j =>
          obtain ⟨g1, g2, -, -⟩ := ix1 j ho
          refine Own.W.istore (pc := 40) (Ls' := [_, _, _, _, _, _]) d8_40 rfl rfl ?_
          refine Own.W.iload (pc := 42) d8_42 rfl ?_
          refine Own.W.if_ge (pc := 44) 53 d8_44 (by decide) (by decide) ?_ (fun h44 => absurd h44 (Own.n_nn (by omega)))
          intro h44
          exact J53 j g1 (by omega)
      intro b hab hbx
      refine Own.W.aloadN (pc := 53) d8_53 rfl rfl ?_
      refine Own.W.bipush (pc := 54) (z := (61 : Int32)) d8_54 (by decide) ?_
      refine Own.W.iloadN (pc := 56) d8_56 rfl ?_
      refine Own.W.callV (pc := 57) (ct_sio G hw hC s xs (by omega) 61 at_ (by decide) (by decide) (by decide) (by omega) (hs.sub (Own.Sub.cons (Own.Sub.cons hS))).str) d8_57 (C := "java/lang/String") (hs.sub (Own.Sub.cons (Own.Sub.cons hS))).is (hw _ (List.mem_of_getElem? (i := 105) rfl)) (hw _ (List.mem_of_getElem? (i := 68) rfl)) (Own.nf_sel (hw _ (List.mem_of_getElem? (i := 70) rfl))) (hw _ (List.mem_of_getElem? (i := 70) rfl)) (hw _ (List.mem_of_getElem? (i := 69) rfl)) (hw _ (List.mem_of_getElem? (i := 7) rfl)) (hw _ (List.mem_of_getElem? (i := 71) rfl)) (by decide) pd_84293393 rfl rfl (Nat.le_of_ble_eq_true rfl) (Nat.le_of_ble_eq_true rfl) (by first | exact Nat.le_of_ble_eq_true rfl | (simp; done) | (simp; omega)) (by first | exact Nat.le_of_ble_eq_true rfl | (simp; done) | (simp; omega)) ?_
      rintro _ _ _ ⟨rfl, rfl, rfl⟩
      refine Own.W.istore (pc := 60) (Ls' := [_, _, _, _, _, _]) d8_60 rfl rfl ?_
      refine Own.W.aloadN (pc := 62) d8_62 rfl rfl ?_
      refine Own.W.new (pc := 63) (hw _ (List.mem_of_getElem? (i := 106) rfl)) (hw _ (List.mem_of_getElem? (i := 107) rfl)) (hw _ (List.mem_of_getElem? (i := 36) rfl)) d8_63 (LF_com_example_stairwell_stairwell_sql_UrlParameter G hw) (vs := [.int 0, .int 0, .int 0]) (by decide) (by first | exact Nat.le_of_ble_eq_true rfl | (simp; done) | (simp; omega)) (by first | exact Nat.le_of_ble_eq_true rfl | (simp; done) | (simp; omega)) ?_
      intro o63
      refine Own.W.dup (pc := 66) d8_66 rfl ?_
      refine Own.W.iloadN (pc := 67) d8_67 rfl ?_
      refine Own.W.iload (pc := 68) d8_68 rfl ?_
      refine Own.W.iload (pc := 70) d8_70 rfl ?_
      suffices J81 : ∀ q : Int32, own_good xs at_ b q → Own.W G K (⟨"com/example/stairwell/stairwell/sql/UrlParameter", "in", "(Ljava/lang/String;)Ljava/util/List;"⟩ : MethodName) prog_78_method_2_code (some (.object "java/util/List")) ({ frames := 5, cells := 7, slots := 42, locals := 69 } : Room) (fun v A L => ∃ (l d : Addr) (mc : Int32) (rs : List Addr) (A0 : List Own.Ent), v = some (.ref l) ∧ A = (l, true, Own.obj "java/util/ArrayList" F_java_util_ArrayList [.int mc, .ref d, .int rs.length.toInt32]) :: (d, true, Own.arr (.object "java/lang/Object") (own_al rs)) :: A0 ∧ Own.Sub As A0 ∧ 1 ≤ rs.length ∧ rs.length ≤ 3 ∧ (∀ r ∈ rs, own_P A0 xs r) ∧ Li = L) ((o63, true, Own.obj "com/example/stairwell/stairwell/sql/UrlParameter" F_com_example_stairwell_stairwell_sql_UrlParameter [.int 0, .int 0, .int 0]) :: (o0, true, Own.obj "java/util/ArrayList" F_java_util_ArrayList [.int mc, .ref d, .int rs.length.toInt32]) :: (d, true, Own.arr (.object "java/lang/Object") (own_al rs)) :: A0) Li ((1 + 2 * rs.length) + 1) ((3 + 13 * rs.length) + 3) 81 [.val (.ref s), .val (.ref o0), .val (.int i2), .val (.int at_.toInt32), .val (.int b.toInt32), .val (.int (own_iz (own_ix 61 (xs.drop at_) at_)))] [.int q, .int at_.toInt32, .ref o63, .ref o63, .ref o0] by
        cases hp : own_ix 61 (xs.drop at_) at_ with
        | none =>
          rw [hp] at J81
          refine Own.W.ic_ge (pc := 72) 80 d8_72 (by decide) (by decide) (fun h72 => absurd h72 (fun q => q (own_m1 (by omega)))) ?_
          intro h72
          refine Own.W.iload (pc := 75) d8_75 rfl ?_
          refine Own.W.goto (pc := 77) 81 d8_77 (by decide) (by decide) ?_
          exact J81 _ ⟨by omega, hab, hbx, fun h => absurd (by decide) h, fun ⟨k, h1, h2, h3⟩ => absurd h3 (jx2 hp k h1)⟩
        | some j =>
          rw [hp] at J81
          obtain ⟨g1, g2, g3, g4⟩ := jx1 j hp
          by_cases hjb : j < b
          · refine Own.W.ic_ge (pc := 72) 80 d8_72 (by decide) (by decide) (fun h72 => absurd h72 (fun q => q (Own.n_lt hjb (by omega)))) ?_
            intro h72
            refine Own.W.iload (pc := 75) d8_75 rfl ?_
            refine Own.W.goto (pc := 77) 81 d8_77 (by decide) (by decide) ?_
            exact J81 _ ⟨by omega, hab, hbx, fun _ => ⟨j, g1, hjb, g3⟩, fun _ => Own.n_nn (by omega)⟩
          · refine Own.W.ic_ge (pc := 72) 80 d8_72 (by decide) (by decide) ?_ (fun h72 => absurd h72 (Own.n_nlt (by omega) (by omega)))
            intro h72
            refine Own.W.iconst (pc := 80) (z := (-1 : Int32)) d8_80 (by decide) ?_
            exact J81 _ ⟨by omega, hab, hbx, fun h => absurd (by decide) h, fun ⟨k, h1, h2, h3⟩ => absurd h3 (g4 k h1 (by omega))⟩
      intro q hq
      refine Own.W.iload (pc := 81) d8_81 rfl ?_
      refine Own.W.callI (pc := 83) (ct_upi G hw o63 _ q _) d8_83 rfl (hw _ (List.mem_of_getElem? (i := 108) rfl)) (hw _ (List.mem_of_getElem? (i := 109) rfl)) (hw _ (List.mem_of_getElem? (i := 36) rfl)) (hw _ (List.mem_of_getElem? (i := 110) rfl)) (by decide) pd_86748551 rfl rfl (Nat.le_of_ble_eq_true rfl) (Nat.le_of_ble_eq_true rfl) (by first | exact Nat.le_of_ble_eq_true rfl | (simp; done) | (simp; omega)) (by first | exact Nat.le_of_ble_eq_true rfl | (simp; done) | (simp; omega)) ?_
      rintro _ _ _ ⟨rfl, rfl, rfl⟩
      refine Own.W.frz Own.Frz.head ?_
      refine Own.W.perm ?_ own_perm3
      refine Own.W.callF (pc := 86) (ct_adN G hw o0 d _ rs (by omega) o63 (Own.Is.mem (List.Mem.head _))) d8_86 (C := "java/util/ArrayList") (Own.Is.mem (by repeat (first | exact List.Mem.head _ | assumption | exact List.mem_append_right _ (List.Mem.head _) | apply List.Mem.tail))) (hw _ (List.mem_of_getElem? (i := 123) rfl)) (hw _ (List.mem_of_getElem? (i := 124) rfl)) (hw _ (List.mem_of_getElem? (i := 125) rfl)) (hw _ (List.mem_of_getElem? (i := 126) rfl)) (hw _ (List.mem_of_getElem? (i := 127) rfl)) (hw _ (List.mem_of_getElem? (i := 128) rfl)) (hw _ (List.mem_of_getElem? (i := 129) rfl)) (hw _ (List.mem_of_getElem? (i := 130) rfl)) (hw _ (List.mem_of_getElem? (i := 40) rfl)) (hw _ (List.mem_of_getElem? (i := 131) rfl)) (by decide) (by first | rfl | simp [Cond.onTables, Cond.keepsFace, Cond.keeps, Cond.steady]) pd_96412080 rfl rfl (Nat.le_of_ble_eq_true rfl) (Nat.le_of_ble_eq_true rfl) (by first | exact Nat.le_of_ble_eq_true rfl | (simp; done) | (simp; omega)) (by first | exact Nat.le_of_ble_eq_true rfl | (simp; done) | (simp; omega)) ?_
      rintro _ _ _ ⟨m2, rfl, rfl, rfl⟩
      refine Own.W.pop (pc := 91) d8_91 rfl ?_
      refine Own.W.iload (pc := 92) d8_92 rfl ?_
      refine Own.W.iconst (pc := 94) (z := (1 : Int32)) d8_94 (by decide) ?_
      refine Own.W.iadd (pc := 95) d8_95 (z := (b + 1).toInt32) (Own.n_succ _) ?_
      refine Own.W.istoreN (pc := 96) (Ls' := [_, _, _, _, _, _]) d8_96 rfl rfl ?_
      refine Own.W.goto (pc := 97) 25 d8_97 (by decide) (by decide) ?_
      exact Own.W.mono (ih (b + 1) (rs ++ [o63]) ((o63, false, Own.obj "com/example/stairwell/stairwell/sql/UrlParameter" F_com_example_stairwell_stairwell_sql_UrlParameter [.int at_.toInt32, .int q, .int b.toInt32]) :: A0) d m2 _ _ _ (by omega) (by simp; omega) (by omega) (by simp) (by simp; omega) (Own.Sub.cons hS) (fun r hr => by
        rcases List.mem_append.mp hr with hr | hr
        · exact (hP r hr).sub (Own.Sub.cons (Own.Sub.refl _))
        · cases List.mem_singleton.mp hr; exact ⟨at_, b, q, List.Mem.head _, hq⟩)) (by simp; omega) (by simp; omega)
    · refine Own.W.iloadN (pc := 25) d8_25 rfl ?_
      refine Own.W.aloadN (pc := 26) d8_26 rfl rfl ?_
      refine Own.W.callV (pc := 27) (ct_slen G hw hC s _ xs.length.toInt32 (hs.sub (Own.Sub.cons (Own.Sub.cons hS))).str (by simp)) d8_27 (C := "java/lang/String") (hs.sub (Own.Sub.cons (Own.Sub.cons hS))).is (hw _ (List.mem_of_getElem? (i := 104) rfl)) (hw _ (List.mem_of_getElem? (i := 78) rfl)) (Own.nf_sel (hw _ (List.mem_of_getElem? (i := 80) rfl))) (hw _ (List.mem_of_getElem? (i := 80) rfl)) (hw _ (List.mem_of_getElem? (i := 79) rfl)) (hw _ (List.mem_of_getElem? (i := 7) rfl)) (hw _ (List.mem_of_getElem? (i := 81) rfl)) (by decide) pd_93421983 rfl rfl (Nat.le_of_ble_eq_true rfl) (Nat.le_of_ble_eq_true rfl) (by first | exact Nat.le_of_ble_eq_true rfl | (simp; done) | (simp; omega)) (by first | exact Nat.le_of_ble_eq_true rfl | (simp; done) | (simp; omega)) ?_
      rintro _ _ _ ⟨rfl, rfl, rfl⟩
      refine Own.W.ic_ge (pc := 30) 100 d8_30 (by decide) (by decide) ?_ (fun h30 => absurd h30 (Own.n_nlt (by omega) (by omega)))
      intro h30
      refine Own.W.aloadN (pc := 100) d8_100 rfl rfl ?_
      refine Own.W.aret (pc := 101) d8_101 rfl rfl rfl ?_ (by first | exact Nat.le_of_ble_eq_true rfl | (simp; done) | (simp; omega)) (by first | exact Nat.le_of_ble_eq_true rfl | (simp; done) | (simp; omega))
      exact ⟨_, _, _, _, _, rfl, rfl, hS, h4, h5, hP, rfl⟩
theorem d33_0 : decode method_3_code 0 = .ok (.aload_n 1, 1) := by decide +kernel
theorem d33_1 : decode method_3_code 1 = .ok (.invokevirtual 7, 3) := by decide +kernel
theorem d33_4 : decode method_3_code 4 = .ok (.istore_n 2, 1) := by decide +kernel
theorem d33_5 : decode method_3_code 5 = .ok (.aload_n 1, 1) := by decide +kernel
theorem d33_6 : decode method_3_code 6 = .ok (.invokevirtual 13, 3) := by decide +kernel
theorem d33_9 : decode method_3_code 9 = .ok (.istore_n 3, 1) := by decide +kernel
theorem d33_10 : decode method_3_code 10 = .ok (.iload_n 2, 1) := by decide +kernel
theorem d33_11 : decode method_3_code 11 = .ok (.iload_n 3, 1) := by decide +kernel
theorem d33_12 : decode method_3_code 12 = .ok (.if_icmp .ge 13, 3) := by decide +kernel
theorem d33_15 : decode method_3_code 15 = .ok (.aload_n 0, 1) := by decide +kernel
theorem d33_16 : decode method_3_code 16 = .ok (.iload_n 2, 1) := by decide +kernel
theorem d33_17 : decode method_3_code 17 = .ok (.invokevirtual 16, 3) := by decide +kernel
theorem pd_87992002 : parseMethodDescriptor "(I)C" = some ⟨[.int], some .char⟩ := by decide +kernel
theorem d33_20 : decode method_3_code 20 = .ok (.bipush 61, 2) := by decide +kernel
theorem d33_22 : decode method_3_code 22 = .ok (.if_icmp .eq 41, 3) := by decide +kernel
theorem d33_25 : decode method_3_code 25 = .ok (.iload_n 2, 1) := by decide +kernel
theorem d33_26 : decode method_3_code 26 = .ok (.iconst 1, 1) := by decide +kernel
theorem d33_27 : decode method_3_code 27 = .ok (.iadd, 1) := by decide +kernel
theorem d33_28 : decode method_3_code 28 = .ok (.iload_n 3, 1) := by decide +kernel
theorem d33_29 : decode method_3_code 29 = .ok (.if_icmp .ge 15, 3) := by decide +kernel
theorem d33_32 : decode method_3_code 32 = .ok (.aload_n 0, 1) := by decide +kernel
theorem d33_33 : decode method_3_code 33 = .ok (.iload_n 2, 1) := by decide +kernel
theorem d33_34 : decode method_3_code 34 = .ok (.iconst 1, 1) := by decide +kernel
theorem d33_35 : decode method_3_code 35 = .ok (.iadd, 1) := by decide +kernel
theorem d33_36 : decode method_3_code 36 = .ok (.invokevirtual 16, 3) := by decide +kernel
theorem d33_39 : decode method_3_code 39 = .ok (.bipush 61, 2) := by decide +kernel
theorem d33_41 : decode method_3_code 41 = .ok (.if_icmp .eq 22, 3) := by decide +kernel
theorem d33_44 : decode method_3_code 44 = .ok (.iload_n 2, 1) := by decide +kernel
theorem d33_45 : decode method_3_code 45 = .ok (.iconst 2, 1) := by decide +kernel
theorem d33_46 : decode method_3_code 46 = .ok (.iadd, 1) := by decide +kernel
theorem d33_47 : decode method_3_code 47 = .ok (.iload_n 3, 1) := by decide +kernel
theorem d33_48 : decode method_3_code 48 = .ok (.if_icmp .ge 19, 3) := by decide +kernel
theorem d33_51 : decode method_3_code 51 = .ok (.aload_n 0, 1) := by decide +kernel
theorem d33_52 : decode method_3_code 52 = .ok (.iload_n 2, 1) := by decide +kernel
theorem d33_53 : decode method_3_code 53 = .ok (.iconst 2, 1) := by decide +kernel
theorem d33_54 : decode method_3_code 54 = .ok (.iadd, 1) := by decide +kernel
theorem d33_55 : decode method_3_code 55 = .ok (.invokevirtual 16, 3) := by decide +kernel
theorem d33_58 : decode method_3_code 58 = .ok (.bipush 61, 2) := by decide +kernel
theorem d33_60 : decode method_3_code 60 = .ok (.if_icmp .ne 7, 3) := by decide +kernel
theorem d33_67 : decode method_3_code 67 = .ok (.iconst 0, 1) := by decide +kernel
theorem d33_68 : decode method_3_code 68 = .ok (.istore 4, 2) := by decide +kernel
theorem d33_70 : decode method_3_code 70 = .ok (.aload_n 1, 1) := by decide +kernel
theorem d33_71 : decode method_3_code 71 = .ok (.invokevirtual 22, 3) := by decide +kernel
theorem d33_74 : decode method_3_code 74 = .ok (.iload 4, 2) := by decide +kernel
theorem d33_76 : decode method_3_code 76 = .ok (.if_icmp .ne 7, 3) := by decide +kernel
theorem d33_79 : decode method_3_code 79 = .ok (.iconst 1, 1) := by decide +kernel
theorem d33_80 : decode method_3_code 80 = .ok (.goto 4, 3) := by decide +kernel
theorem d33_84 : decode method_3_code 84 = .ok (.ireturn, 1) := by decide +kernel
theorem d33_63 : decode method_3_code 63 = .ok (.iconst 1, 1) := by decide +kernel
theorem d33_64 : decode method_3_code 64 = .ok (.goto 4, 3) := by decide +kernel
theorem pn_96310929 : plainFor (⟨"com/example/stairwell/stairwell/sql/UrlParameterHasValuePinLaw", "check", "(Ljava/lang/String;Lcom/example/stairwell/stairwell/sql/UrlParameter;)Z"⟩ : MethodName) = true := by first | exact plainFor_of_name (by first | (simp [plainName, overriddenIn]; done) | decide +kernel) | decide +kernel
set_option maxRecDepth 65536 in
set_option maxHeartbeats 4000000 in
theorem ct_chk (G : Own.Gx) (hw : ∀ d ∈ tables_1, d.before G.a0 G.Z = true) (hC : Own.CSt G) (hF : ∃ f : Value, Sta G.Z G.Z.heap "jdk/internal/util/Preconditions" "SIOOBE_FORMATTER" "Ljava/util/function/BiFunction;" f ∧ f.isRef = true) {As : List Own.Ent} {Li : List Own.LitE} (s o : Addr) (xs : List Int32) (hx4 : xs.length = 4) (hB : ∀ x ∈ xs, x &&& 255 = 61 ↔ x = 61) (hs : Own.StrF As s (xs.map Value.int)) (a b : Nat) (q : Int32) (hm : (o, false, Own.obj "com/example/stairwell/stairwell/sql/UrlParameter" F_com_example_stairwell_stairwell_sql_UrlParameter [.int a.toInt32, .int q, .int b.toInt32]) ∈ As) (hg : own_good xs a b q) :
    Own.Ct G [] (⟨"com/example/stairwell/stairwell/sql/UrlParameterHasValuePinLaw", "check", "(Ljava/lang/String;Lcom/example/stairwell/stairwell/sql/UrlParameter;)Z"⟩ : MethodName) method_3_code 5 (some .boolean) ({ frames := 4, cells := 0, slots := 0, locals := 53 } : Room) [.ref s, .ref o] As Li (fun v A L => v = some (.int 1) ∧ As = A ∧ Li = L) := by
  refine Own.Ct.intro pn_96310929 (Ls := [.val (.ref s), .val (.ref o), .unset, .unset, .unset]) rfl rfl ?_
  intro K
  obtain ⟨g0, g1, g2, g3⟩ := hg
  refine Own.W.aloadN (pc := 0) d33_0 rfl rfl ?_
  refine Own.W.callV (pc := 1) (ct_ups G hw o _ q _ hm) d33_1 (C := "com/example/stairwell/stairwell/sql/UrlParameter") (Own.Is.mem hm) (hw _ (List.mem_of_getElem? (i := 189) rfl)) (hw _ (List.mem_of_getElem? (i := 190) rfl)) (Own.nf_sel (hw _ (List.mem_of_getElem? (i := 192) rfl))) (hw _ (List.mem_of_getElem? (i := 192) rfl)) (hw _ (List.mem_of_getElem? (i := 191) rfl)) (hw _ (List.mem_of_getElem? (i := 36) rfl)) (hw _ (List.mem_of_getElem? (i := 193) rfl)) (by decide) pd_93421983 rfl rfl (Nat.le_of_ble_eq_true rfl) (Nat.le_of_ble_eq_true rfl) (Nat.le_of_ble_eq_true rfl) (Nat.le_of_ble_eq_true rfl) ?_
  rintro _ _ _ ⟨rfl, rfl, rfl⟩
  refine Own.W.istoreN (pc := 4) (Ls' := [_, _, _, _, _]) d33_4 rfl rfl ?_
  refine Own.W.aloadN (pc := 5) d33_5 rfl rfl ?_
  refine Own.W.callV (pc := 6) (ct_upe G hw o _ q _ hm) d33_6 (C := "com/example/stairwell/stairwell/sql/UrlParameter") (Own.Is.mem hm) (hw _ (List.mem_of_getElem? (i := 194) rfl)) (hw _ (List.mem_of_getElem? (i := 195) rfl)) (Own.nf_sel (hw _ (List.mem_of_getElem? (i := 197) rfl))) (hw _ (List.mem_of_getElem? (i := 197) rfl)) (hw _ (List.mem_of_getElem? (i := 196) rfl)) (hw _ (List.mem_of_getElem? (i := 36) rfl)) (hw _ (List.mem_of_getElem? (i := 198) rfl)) (by decide) pd_93421983 rfl rfl (Nat.le_of_ble_eq_true rfl) (Nat.le_of_ble_eq_true rfl) (Nat.le_of_ble_eq_true rfl) (Nat.le_of_ble_eq_true rfl) ?_
  rintro _ _ _ ⟨rfl, rfl, rfl⟩
  refine Own.W.istoreN (pc := 9) (Ls' := [_, _, _, _, _]) d33_9 rfl rfl ?_
  suffices J63 : ¬ q < 0 → Own.W G K (⟨"com/example/stairwell/stairwell/sql/UrlParameterHasValuePinLaw", "check", "(Ljava/lang/String;Lcom/example/stairwell/stairwell/sql/UrlParameter;)Z"⟩ : MethodName) method_3_code (some .boolean) ({ frames := 4, cells := 0, slots := 0, locals := 53 } : Room) (fun v A L => v = some (.int 1) ∧ As = A ∧ Li = L) As Li 0 0 63 [.val (.ref s), .val (.ref o), .val (.int a.toInt32), .val (.int b.toInt32), .unset] [] by
    suffices J67 : q < 0 → Own.W G K (⟨"com/example/stairwell/stairwell/sql/UrlParameterHasValuePinLaw", "check", "(Ljava/lang/String;Lcom/example/stairwell/stairwell/sql/UrlParameter;)Z"⟩ : MethodName) method_3_code (some .boolean) ({ frames := 4, cells := 0, slots := 0, locals := 53 } : Room) (fun v A L => v = some (.int 1) ∧ As = A ∧ Li = L) As Li 0 0 67 [.val (.ref s), .val (.ref o), .val (.int a.toInt32), .val (.int b.toInt32), .unset] [] by
      have yes : ∀ k, a ≤ k → k < b → ∀ h : k < xs.length, xs[k] &&& 255 = 61 → ¬ q < 0 := fun k h1 h2 h h3 => g3.mpr ⟨k, h1, h2, by rw [List.getElem?_eq_getElem h, (hB _ (List.getElem_mem h)).mp h3]⟩
      have no : (∀ k, a ≤ k → k < b → ∀ h : k < xs.length, ¬ xs[k] &&& 255 = 61) → q < 0 := fun n => Classical.byContradiction fun c => by
        obtain ⟨k, h1, h2, h3⟩ := g3.mp c
        have h : k < xs.length := by omega
        rw [List.getElem?_eq_getElem h] at h3
        exact n k h1 h2 h ((hB _ (List.getElem_mem h)).mpr (Option.some.inj h3))
      suffices J44 : (∀ k, a ≤ k → k < a + 2 → k < b → ∀ h : k < xs.length, ¬ xs[k] &&& 255 = 61) → Own.W G K (⟨"com/example/stairwell/stairwell/sql/UrlParameterHasValuePinLaw", "check", "(Ljava/lang/String;Lcom/example/stairwell/stairwell/sql/UrlParameter;)Z"⟩ : MethodName) method_3_code (some .boolean) ({ frames := 4, cells := 0, slots := 0, locals := 53 } : Room) (fun v A L => v = some (.int 1) ∧ As = A ∧ Li = L) As Li 0 0 44 [.val (.ref s), .val (.ref o), .val (.int a.toInt32), .val (.int b.toInt32), .unset] [] by
        suffices J25 : (∀ k, a ≤ k → k < a + 1 → k < b → ∀ h : k < xs.length, ¬ xs[k] &&& 255 = 61) → Own.W G K (⟨"com/example/stairwell/stairwell/sql/UrlParameterHasValuePinLaw", "check", "(Ljava/lang/String;Lcom/example/stairwell/stairwell/sql/UrlParameter;)Z"⟩ : MethodName) method_3_code (some .boolean) ({ frames := 4, cells := 0, slots := 0, locals := 53 } : Room) (fun v A L => v = some (.int 1) ∧ As = A ∧ Li = L) As Li 0 0 25 [.val (.ref s), .val (.ref o), .val (.int a.toInt32), .val (.int b.toInt32), .unset] [] by
          refine Own.W.iloadN (pc := 10) d33_10 rfl ?_
          refine Own.W.iloadN (pc := 11) d33_11 rfl ?_
          by_cases hlt0 : a < b
          · refine Own.W.ic_ge (pc := 12) 25 d33_12 (by decide) (by decide) (fun h12 => absurd h12 (fun q => q (Own.n_lt hlt0 (by omega)))) ?_
            intro h12
            refine Own.W.aloadN (pc := 15) d33_15 rfl rfl ?_
            refine Own.W.iloadN (pc := 16) d33_16 rfl ?_
            refine Own.W.callV (pc := 17) (ct_cha G hw hC hF s xs (a) (by omega) (by omega) hs.str) d33_17 (C := "java/lang/String") hs.is (hw _ (List.mem_of_getElem? (i := 199) rfl)) (hw _ (List.mem_of_getElem? (i := 200) rfl)) (Own.nf_sel (hw _ (List.mem_of_getElem? (i := 202) rfl))) (hw _ (List.mem_of_getElem? (i := 202) rfl)) (hw _ (List.mem_of_getElem? (i := 201) rfl)) (hw _ (List.mem_of_getElem? (i := 7) rfl)) (hw _ (List.mem_of_getElem? (i := 203) rfl)) (by decide) pd_87992002 rfl rfl (Nat.le_of_ble_eq_true rfl) (Nat.le_of_ble_eq_true rfl) (Nat.le_of_ble_eq_true rfl) (Nat.le_of_ble_eq_true rfl) ?_
            rintro _ _ _ ⟨rfl, rfl, rfl⟩
            refine Own.W.bipush (pc := 20) (z := (61 : Int32)) d33_20 (by decide) ?_
            refine Own.W.ic_eq (pc := 22) 63 d33_22 (by decide) (by decide) ?_ ?_
            · intro h22
              exact J63 (yes (a) (by omega) hlt0 (by omega) h22)
            · intro h22
              exact J25 (fun k h1 h2 h3 h => by
                rcases Nat.lt_or_ge k (a) with r | r
                · exact absurd h1 (by omega)
                · obtain rfl : k = a := by omega
                  exact h22)
          · refine Own.W.ic_ge (pc := 12) 25 d33_12 (by decide) (by decide) ?_ (fun h12 => absurd h12 (Own.n_nlt (by omega) (by omega)))
            intro h12
            exact J25 (fun k h1 h2 h3 h => by
              rcases Nat.lt_or_ge k (a) with r | r
              · exact absurd h1 (by omega)
              · exact absurd h3 (by omega))
        intro hn
        refine Own.W.iloadN (pc := 25) d33_25 rfl ?_
        refine Own.W.iconst (pc := 26) (z := (1 : Int32)) d33_26 (by decide) ?_
        refine Own.W.iadd (pc := 27) d33_27 (z := (a + 1).toInt32) (Own.n_add a 1) ?_
        refine Own.W.iloadN (pc := 28) d33_28 rfl ?_
        by_cases hlt1 : a + 1 < b
        · refine Own.W.ic_ge (pc := 29) 44 d33_29 (by decide) (by decide) (fun h29 => absurd h29 (fun q => q (Own.n_lt hlt1 (by omega)))) ?_
          intro h29
          refine Own.W.aloadN (pc := 32) d33_32 rfl rfl ?_
          refine Own.W.iloadN (pc := 33) d33_33 rfl ?_
          refine Own.W.iconst (pc := 34) (z := (1 : Int32)) d33_34 (by decide) ?_
          refine Own.W.iadd (pc := 35) d33_35 (z := (a + 1).toInt32) (Own.n_add a 1) ?_
          refine Own.W.callV (pc := 36) (ct_cha G hw hC hF s xs (a + 1) (by omega) (by omega) hs.str) d33_36 (C := "java/lang/String") hs.is (hw _ (List.mem_of_getElem? (i := 199) rfl)) (hw _ (List.mem_of_getElem? (i := 200) rfl)) (Own.nf_sel (hw _ (List.mem_of_getElem? (i := 202) rfl))) (hw _ (List.mem_of_getElem? (i := 202) rfl)) (hw _ (List.mem_of_getElem? (i := 201) rfl)) (hw _ (List.mem_of_getElem? (i := 7) rfl)) (hw _ (List.mem_of_getElem? (i := 203) rfl)) (by decide) pd_87992002 rfl rfl (Nat.le_of_ble_eq_true rfl) (Nat.le_of_ble_eq_true rfl) (Nat.le_of_ble_eq_true rfl) (Nat.le_of_ble_eq_true rfl) ?_
          rintro _ _ _ ⟨rfl, rfl, rfl⟩
          refine Own.W.bipush (pc := 39) (z := (61 : Int32)) d33_39 (by decide) ?_
          refine Own.W.ic_eq (pc := 41) 63 d33_41 (by decide) (by decide) ?_ ?_
          · intro h41
            exact J63 (yes (a + 1) (by omega) hlt1 (by omega) h41)
          · intro h41
            exact J44 (fun k h1 h2 h3 h => by
              rcases Nat.lt_or_ge k (a + 1) with r | r
              · exact hn k h1 (by omega) h3 h
              · obtain rfl : k = a + 1 := by omega
                exact h41)
        · refine Own.W.ic_ge (pc := 29) 44 d33_29 (by decide) (by decide) ?_ (fun h29 => absurd h29 (Own.n_nlt (by omega) (by omega)))
          intro h29
          exact J44 (fun k h1 h2 h3 h => by
            rcases Nat.lt_or_ge k (a + 1) with r | r
            · exact hn k h1 (by omega) h3 h
            · exact absurd h3 (by omega))
      intro hn
      refine Own.W.iloadN (pc := 44) d33_44 rfl ?_
      refine Own.W.iconst (pc := 45) (z := (2 : Int32)) d33_45 (by decide) ?_
      refine Own.W.iadd (pc := 46) d33_46 (z := (a + 2).toInt32) (Own.n_add a 2) ?_
      refine Own.W.iloadN (pc := 47) d33_47 rfl ?_
      by_cases hlt2 : a + 2 < b
      · refine Own.W.ic_ge (pc := 48) 67 d33_48 (by decide) (by decide) (fun h48 => absurd h48 (fun q => q (Own.n_lt hlt2 (by omega)))) ?_
        intro h48
        refine Own.W.aloadN (pc := 51) d33_51 rfl rfl ?_
        refine Own.W.iloadN (pc := 52) d33_52 rfl ?_
        refine Own.W.iconst (pc := 53) (z := (2 : Int32)) d33_53 (by decide) ?_
        refine Own.W.iadd (pc := 54) d33_54 (z := (a + 2).toInt32) (Own.n_add a 2) ?_
        refine Own.W.callV (pc := 55) (ct_cha G hw hC hF s xs (a + 2) (by omega) (by omega) hs.str) d33_55 (C := "java/lang/String") hs.is (hw _ (List.mem_of_getElem? (i := 199) rfl)) (hw _ (List.mem_of_getElem? (i := 200) rfl)) (Own.nf_sel (hw _ (List.mem_of_getElem? (i := 202) rfl))) (hw _ (List.mem_of_getElem? (i := 202) rfl)) (hw _ (List.mem_of_getElem? (i := 201) rfl)) (hw _ (List.mem_of_getElem? (i := 7) rfl)) (hw _ (List.mem_of_getElem? (i := 203) rfl)) (by decide) pd_87992002 rfl rfl (Nat.le_of_ble_eq_true rfl) (Nat.le_of_ble_eq_true rfl) (Nat.le_of_ble_eq_true rfl) (Nat.le_of_ble_eq_true rfl) ?_
        rintro _ _ _ ⟨rfl, rfl, rfl⟩
        refine Own.W.bipush (pc := 58) (z := (61 : Int32)) d33_58 (by decide) ?_
        refine Own.W.ic_ne (pc := 60) 67 d33_60 (by decide) (by decide) ?_ ?_
        · intro h60
          exact J67 (no fun k h1 h3 h => (fun k h1 h2 h3 h => by
            rcases Nat.lt_or_ge k (a + 2) with r | r
            · exact hn k h1 (by omega) h3 h
            · obtain rfl : k = a + 2 := by omega
              exact h60 : ∀ k, a ≤ k → k < a + 3 → k < b → ∀ h : k < xs.length, ¬ xs[k] &&& 255 = 61) k h1 (by omega) h3 h)
        · intro h60
          exact J63 (yes (a + 2) (by omega) hlt2 (by omega) h60)
      · refine Own.W.ic_ge (pc := 48) 67 d33_48 (by decide) (by decide) ?_ (fun h48 => absurd h48 (Own.n_nlt (by omega) (by omega)))
        intro h48
        exact J67 (no fun k h1 h3 h => (fun k h1 h2 h3 h => by
          rcases Nat.lt_or_ge k (a + 2) with r | r
          · exact hn k h1 (by omega) h3 h
          · exact absurd h3 (by omega) : ∀ k, a ≤ k → k < a + 3 → k < b → ∀ h : k < xs.length, ¬ xs[k] &&& 255 = 61) k h1 (by omega) h3 h)
    intro hq
    refine Own.W.iconst (pc := 67) (z := (0 : Int32)) d33_67 (by decide) ?_
    refine Own.W.istore (pc := 68) (Ls' := [_, _, _, _, _]) d33_68 rfl rfl ?_
    refine Own.W.aloadN (pc := 70) d33_70 rfl rfl ?_
    refine Own.W.callV (pc := 71) (ct_uph G hw o _ q _ hm) d33_71 (C := "com/example/stairwell/stairwell/sql/UrlParameter") (Own.Is.mem hm) (hw _ (List.mem_of_getElem? (i := 212) rfl)) (hw _ (List.mem_of_getElem? (i := 213) rfl)) (Own.nf_sel (hw _ (List.mem_of_getElem? (i := 215) rfl))) (hw _ (List.mem_of_getElem? (i := 215) rfl)) (hw _ (List.mem_of_getElem? (i := 214) rfl)) (hw _ (List.mem_of_getElem? (i := 36) rfl)) (hw _ (List.mem_of_getElem? (i := 216) rfl)) (by decide) pd_93422000 rfl rfl (Nat.le_of_ble_eq_true rfl) (Nat.le_of_ble_eq_true rfl) (Nat.le_of_ble_eq_true rfl) (Nat.le_of_ble_eq_true rfl) ?_
    rintro _ _ _ ⟨rfl, rfl, rfl⟩
    rw [show own_hv q = 0 from if_pos hq]
    refine Own.W.iload (pc := 74) d33_74 rfl ?_
    refine Own.W.ic_ne (pc := 76) 83 d33_76 (by decide) (by decide) (fun h76 => absurd h76 (fun q => q rfl)) ?_
    intro h76
    refine Own.W.iconst (pc := 79) (z := (1 : Int32)) d33_79 (by decide) ?_
    refine Own.W.goto (pc := 80) 84 d33_80 (by decide) (by decide) ?_
    refine Own.W.iret (pc := 84) d33_84 rfl (by simp) (by first | rfl | decide) ?_ (Nat.le_of_ble_eq_true rfl) (Nat.le_of_ble_eq_true rfl)
    exact ⟨rfl, rfl, rfl⟩
  intro hq
  refine Own.W.iconst (pc := 63) (z := (1 : Int32)) d33_63 (by decide) ?_
  refine Own.W.goto (pc := 64) 68 d33_64 (by decide) (by decide) ?_
  refine Own.W.istore (pc := 68) (Ls' := [_, _, _, _, _]) d33_68 rfl rfl ?_
  refine Own.W.aloadN (pc := 70) d33_70 rfl rfl ?_
  refine Own.W.callV (pc := 71) (ct_uph G hw o _ q _ hm) d33_71 (C := "com/example/stairwell/stairwell/sql/UrlParameter") (Own.Is.mem hm) (hw _ (List.mem_of_getElem? (i := 212) rfl)) (hw _ (List.mem_of_getElem? (i := 213) rfl)) (Own.nf_sel (hw _ (List.mem_of_getElem? (i := 215) rfl))) (hw _ (List.mem_of_getElem? (i := 215) rfl)) (hw _ (List.mem_of_getElem? (i := 214) rfl)) (hw _ (List.mem_of_getElem? (i := 36) rfl)) (hw _ (List.mem_of_getElem? (i := 216) rfl)) (by decide) pd_93422000 rfl rfl (Nat.le_of_ble_eq_true rfl) (Nat.le_of_ble_eq_true rfl) (Nat.le_of_ble_eq_true rfl) (Nat.le_of_ble_eq_true rfl) ?_
  rintro _ _ _ ⟨rfl, rfl, rfl⟩
  rw [show own_hv q = 1 from if_neg hq]
  refine Own.W.iload (pc := 74) d33_74 rfl ?_
  refine Own.W.ic_ne (pc := 76) 83 d33_76 (by decide) (by decide) (fun h76 => absurd h76 (fun q => q rfl)) ?_
  intro h76
  refine Own.W.iconst (pc := 79) (z := (1 : Int32)) d33_79 (by decide) ?_
  refine Own.W.goto (pc := 80) 84 d33_80 (by decide) (by decide) ?_
  refine Own.W.iret (pc := 84) d33_84 rfl (by simp) (by first | rfl | decide) ?_ (Nat.le_of_ble_eq_true rfl) (Nat.le_of_ble_eq_true rfl)
  exact ⟨rfl, rfl, rfl⟩
theorem own_pos (x : Int32) : ¬ (x &&& 2147483647) < 0 := by
  have q := c_mask x 2147483647 31 (by decide) (by decide)
  rw [Int32.lt_iff_toInt_lt, q]
  have h2 : (0 : Int32).toInt = 0 := rfl
  omega
theorem own_eq61 {x : Int32} (h : x &&& 255 = x) : x.toInt8.toInt32 &&& 255 = 61 ↔ x.toInt8.toInt32 = 61 := by
  rw [own_back h]
  constructor
  · rintro rfl; decide
  · intro e
    have := own_back h
    rw [e] at this
    exact this.symm.trans (by decide)
def Q1 : Own.Qx := fun v _ _ => v = some (.int 1)
theorem pd_84933738 : parseMethodDescriptor "([C)V" = some ⟨[(.array .char)], none⟩ := by decide +kernel
theorem pd_74928567 : parseMethodDescriptor "(Ljava/lang/String;)Ljava/util/List;" = some ⟨[(.object "java/lang/String")], some (.object "java/util/List")⟩ := by decide +kernel
theorem pd_68613567 : parseMethodDescriptor "(Ljava/lang/String;Lcom/example/stairwell/stairwell/sql/UrlParameter;)Z" = some ⟨[(.object "java/lang/String"), (.object "com/example/stairwell/stairwell/sql/UrlParameter")], some .boolean⟩ := by decide +kernel
theorem pn_14729182 : plainFor x = true := by first | exact plainFor_of_name (by first | (simp [plainName, overriddenIn]; done) | decide +kernel) | decide +kernel
set_option maxRecDepth 65536 in
set_option maxHeartbeats 4000000 in
theorem ct_law (G : Own.Gx) (hw : ∀ d ∈ tables_1, d.before G.a0 G.Z = true) (ws : List Jvm.Cond) (hC : Own.CSt G) (hF : ∃ f : Value, Sta G.Z G.Z.heap "jdk/internal/util/Preconditions" "SIOOBE_FORMATTER" "Ljava/util/function/BiFunction;" f ∧ f.isRef = true) (df : Addr) (hD : Dflt G df) (p0 p1 p2 p3 p4 p5 : Int32) :
    Own.Ct G ws x code maxLocals ret room_1 [.int p0, .int p1, .int p2, .int p3, .int p4, .int p5] [] [] (Q1) := by
  refine Own.Ct.intro pn_14729182 (Ls := [.val (.int p0), .val (.int p1), .val (.int p2), .val (.int p3), .val (.int p4), .val (.int p5), .unset, .unset, .unset, .unset, .unset, .unset, .unset]) (Own.args_ls rfl) rfl ?_
  intro K
  refine Own.W.iconst (pc := 0) (z := (4 : Int32)) at_0 (by decide) ?_
  refine Own.W.newP (pc := 1) 4 (hw _ (List.mem_of_getElem? (i := 0) rfl)) at_1 rfl (by decide) (Nat.le_of_ble_eq_true rfl) (by decide) (vs := [.int 0, .int 0, .int 0, .int 0]) rfl (Nat.le_of_ble_eq_true rfl) (Nat.le_of_ble_eq_true rfl) ?_
  intro o1
  refine Own.W.astore (pc := 3) (Ls' := [_, _, _, _, _, _, _, _, _, _, _, _, _]) at_3 rfl rfl rfl ?_
  refine Own.W.aload (pc := 5) at_5 rfl rfl ?_
  refine Own.W.iconst (pc := 7) (z := (0 : Int32)) at_7 (by decide) ?_
  refine Own.W.bipush (pc := 8) (z := (63 : Int32)) at_8 (by decide) ?_
  refine Own.W.castore (pc := 10) at_10 (by decide) (i := 0) (by decide) (by simp) (u := .int 63) (by decide) (vs' := [.int 63, .int 0, .int 0, .int 0]) rfl Own.Upd.head ?_
  refine Own.W.aload (pc := 11) at_11 rfl rfl ?_
  refine Own.W.iconst (pc := 13) (z := (1 : Int32)) at_13 (by decide) ?_
  refine Own.W.iloadN (pc := 14) at_14 rfl ?_
  refine Own.W.callS (pc := 15) (ct_pick G hw p0) at_15 (hw _ (List.mem_of_getElem? (i := 1) rfl)) (hw _ (List.mem_of_getElem? (i := 2) rfl)) (hw _ (List.mem_of_getElem? (i := 3) rfl)) (hw _ (List.mem_of_getElem? (i := 4) rfl)) (by decide) pd_87992002 rfl rfl (Nat.le_of_ble_eq_true rfl) (Nat.le_of_ble_eq_true rfl) (Nat.le_of_ble_eq_true rfl) (Nat.le_of_ble_eq_true rfl) ?_
  rintro _ _ _ ⟨z1, rfl, hz1, rfl, rfl⟩
  refine Own.W.castore (pc := 18) at_18 (by decide) (i := 1) (by decide) (by simp) (u := .int z1) (congrArg Value.int (own_nar hz1)) (vs' := [.int 63, .int z1, .int 0, .int 0]) rfl Own.Upd.head ?_
  refine Own.W.aload (pc := 19) at_19 rfl rfl ?_
  refine Own.W.iconst (pc := 21) (z := (2 : Int32)) at_21 (by decide) ?_
  refine Own.W.iloadN (pc := 22) at_22 rfl ?_
  refine Own.W.callS (pc := 23) (ct_pick G hw p1) at_23 (hw _ (List.mem_of_getElem? (i := 1) rfl)) (hw _ (List.mem_of_getElem? (i := 2) rfl)) (hw _ (List.mem_of_getElem? (i := 3) rfl)) (hw _ (List.mem_of_getElem? (i := 4) rfl)) (by decide) pd_87992002 rfl rfl (Nat.le_of_ble_eq_true rfl) (Nat.le_of_ble_eq_true rfl) (Nat.le_of_ble_eq_true rfl) (Nat.le_of_ble_eq_true rfl) ?_
  rintro _ _ _ ⟨z2, rfl, hz2, rfl, rfl⟩
  refine Own.W.castore (pc := 26) at_26 (by decide) (i := 2) (by decide) (by simp) (u := .int z2) (congrArg Value.int (own_nar hz2)) (vs' := [.int 63, .int z1, .int z2, .int 0]) rfl Own.Upd.head ?_
  refine Own.W.aload (pc := 27) at_27 rfl rfl ?_
  refine Own.W.iconst (pc := 29) (z := (3 : Int32)) at_29 (by decide) ?_
  refine Own.W.iloadN (pc := 30) at_30 rfl ?_
  refine Own.W.callS (pc := 31) (ct_pick G hw p2) at_31 (hw _ (List.mem_of_getElem? (i := 1) rfl)) (hw _ (List.mem_of_getElem? (i := 2) rfl)) (hw _ (List.mem_of_getElem? (i := 3) rfl)) (hw _ (List.mem_of_getElem? (i := 4) rfl)) (by decide) pd_87992002 rfl rfl (Nat.le_of_ble_eq_true rfl) (Nat.le_of_ble_eq_true rfl) (Nat.le_of_ble_eq_true rfl) (Nat.le_of_ble_eq_true rfl) ?_
  rintro _ _ _ ⟨z3, rfl, hz3, rfl, rfl⟩
  refine Own.W.castore (pc := 34) at_34 (by decide) (i := 3) (by decide) (by simp) (u := .int z3) (congrArg Value.int (own_nar hz3)) (vs' := [.int 63, .int z1, .int z2, .int z3]) rfl Own.Upd.head ?_
  refine Own.W.new (pc := 35) (hw _ (List.mem_of_getElem? (i := 5) rfl)) (hw _ (List.mem_of_getElem? (i := 6) rfl)) (hw _ (List.mem_of_getElem? (i := 7) rfl)) at_35 (LF_java_lang_String G hw) (vs := [.int 0, .null]) (by decide) (Nat.le_of_ble_eq_true rfl) (Nat.le_of_ble_eq_true rfl) ?_
  intro o35
  refine Own.W.dup (pc := 38) at_38 rfl ?_
  refine Own.W.aload (pc := 39) at_39 rfl rfl ?_
  have hcb : ∀ z ∈ ([63, z1, z2, z3] : List Int32), z &&& 255 = z := fun z hz => by
    simp only [List.mem_cons, List.not_mem_nil, or_false] at hz
    rcases hz with rfl | rfl | rfl | rfl
    · decide
    · exact hz1
    · exact hz2
    · exact hz3
  refine Own.W.callI (pc := 41) (ct_str1 G hw hC o35 o1 [63, z1, z2, z3] 4 (by simp) (by simp) (by decide) (fun z hz => own_ch (hcb z hz)) (Own.AVin.mem (List.Mem.head _))) at_41 rfl (hw _ (List.mem_of_getElem? (i := 8) rfl)) (hw _ (List.mem_of_getElem? (i := 9) rfl)) (hw _ (List.mem_of_getElem? (i := 7) rfl)) (hw _ (List.mem_of_getElem? (i := 10) rfl)) (by decide) pd_84933738 rfl rfl (Nat.le_of_ble_eq_true rfl) (Nat.le_of_ble_eq_true rfl) (Nat.le_of_ble_eq_true rfl) (by first | exact Nat.le_of_ble_eq_true rfl | (simp; done) | (simp; omega)) ?_
  rintro _ _ _ ⟨b, rfl, rfl, rfl⟩
  refine Own.W.frz Own.Frz.head ?_
  refine Own.W.frz (Own.Frz.tail Own.Frz.head) ?_
  rw [own_by_map]
  obtain ⟨xs, hxs⟩ : ∃ xs, xs = own_by [63, z1, z2, z3] := ⟨_, rfl⟩
  rw [← hxs]
  have hx4 : xs.length = 4 := by rw [hxs]; rfl
  have hx0 : xs[0]? = some 63 := by rw [hxs]; rfl
  have hB : ∀ x ∈ xs, x &&& 255 = 61 ↔ x = 61 := fun x hx => by
    rw [hxs] at hx
    obtain ⟨z, hz, rfl⟩ := List.mem_map.mp hx
    exact own_eq61 (hcb z hz)
  refine Own.W.astore (pc := 44) (Ls' := [_, _, _, _, _, _, _, _, _, _, _, _, _]) at_44 rfl rfl rfl ?_
  refine Own.W.aload (pc := 46) at_46 rfl rfl ?_
  refine Own.W.callS (pc := 48) (ct_in G hw hC df hD o35 xs hx4 hx0 ⟨b, _, _, List.Mem.tail _ (List.Mem.head _), (by repeat (first | exact Own.FAt.head | apply Own.FAt.tail)), (by repeat (first | exact Own.FAt.head | apply Own.FAt.tail)), List.Mem.head _⟩) at_48 (hw _ (List.mem_of_getElem? (i := 34) rfl)) (hw _ (List.mem_of_getElem? (i := 35) rfl)) (hw _ (List.mem_of_getElem? (i := 36) rfl)) (hw _ (List.mem_of_getElem? (i := 37) rfl)) (by decide) pd_74928567 rfl rfl (Nat.le_of_ble_eq_true rfl) (Nat.le_of_ble_eq_true rfl) (Nat.le_of_ble_eq_true rfl) (Nat.le_of_ble_eq_true rfl) ?_
  rintro _ _ _ ⟨l, d, mc, rs, A0, rfl, rfl, hS, hr1, hr3, hP, rfl⟩
  have hs : Own.StrF ((l, true, Own.obj "java/util/ArrayList" F_java_util_ArrayList [.int mc, .ref d, .int rs.length.toInt32]) :: (d, true, Own.arr (.object "java/lang/Object") (own_al rs)) :: A0) o35 (xs.map Value.int) := ⟨b, _, _, List.Mem.tail _ (List.Mem.tail _ (hS _ (List.Mem.tail _ (List.Mem.head _)))), (by repeat (first | exact Own.FAt.head | apply Own.FAt.tail)), (by repeat (first | exact Own.FAt.head | apply Own.FAt.tail)), List.Mem.tail _ (List.Mem.tail _ (hS _ (List.Mem.head _)))⟩
  refine Own.W.astore (pc := 51) (Ls' := [_, _, _, _, _, _, _, _, _, _, _, _, _]) at_51 rfl rfl rfl ?_
  refine Own.W.iconst (pc := 53) (z := (1 : Int32)) at_53 (by decide) ?_
  refine Own.W.istore (pc := 54) (Ls' := [_, _, _, _, _, _, _, _, _, _, _, _, _]) at_54 rfl rfl ?_
  refine Own.W.aload (pc := 56) at_56 rfl rfl ?_
  refine Own.W.callF (pc := 58) (ct_alz G hw l d mc _ (List.Mem.head _)) at_58 (C := "java/util/ArrayList") (Own.Is.mem (List.Mem.head _)) (hw _ (List.mem_of_getElem? (i := 155) rfl)) (hw _ (List.mem_of_getElem? (i := 156) rfl)) (hw _ (List.mem_of_getElem? (i := 157) rfl)) (hw _ (List.mem_of_getElem? (i := 158) rfl)) (hw _ (List.mem_of_getElem? (i := 159) rfl)) (hw _ (List.mem_of_getElem? (i := 160) rfl)) (hw _ (List.mem_of_getElem? (i := 161) rfl)) (hw _ (List.mem_of_getElem? (i := 130) rfl)) (hw _ (List.mem_of_getElem? (i := 40) rfl)) (hw _ (List.mem_of_getElem? (i := 162) rfl)) (by decide) (by first | rfl | simp [Cond.onTables, Cond.keepsFace, Cond.keeps, Cond.steady]) pd_93421983 rfl rfl (Nat.le_of_ble_eq_true rfl) (Nat.le_of_ble_eq_true rfl) (Nat.le_of_ble_eq_true rfl) (Nat.le_of_ble_eq_true rfl) ?_
  rintro _ _ _ ⟨rfl, rfl, rfl⟩
  refine Own.W.istore (pc := 63) (Ls' := [_, _, _, _, _, _, _, _, _, _, _, _, _]) at_63 rfl rfl ?_
  refine Own.W.iload (pc := 65) at_65 rfl ?_
  refine Own.W.if_le (pc := 67) 101 at_67 (by decide) (by decide) (fun h67 => absurd h67 (fun q => q (Own.n_pos (by omega) (by omega)))) ?_
  intro h67
  refine Own.W.iload (pc := 70) at_70 rfl ?_
  refine Own.W.if_eq (pc := 72) 98 at_72 (by decide) (by decide) (fun h72 => absurd h72 (by decide)) ?_
  intro h72
  refine Own.W.aload (pc := 75) at_75 rfl rfl ?_
  refine Own.W.aload (pc := 77) at_77 rfl rfl ?_
  refine Own.W.iconst (pc := 79) (z := (0 : Int32)) at_79 (by decide) ?_
  refine Own.W.callF (pc := 80) (ct_get G hw l d mc rs (by omega) (List.Mem.head _) (List.Mem.tail _ (List.Mem.head _)) 0 (by omega)) at_80 (C := "java/util/ArrayList") (Own.Is.mem (List.Mem.head _)) (hw _ (List.mem_of_getElem? (i := 163) rfl)) (hw _ (List.mem_of_getElem? (i := 164) rfl)) (hw _ (List.mem_of_getElem? (i := 165) rfl)) (hw _ (List.mem_of_getElem? (i := 166) rfl)) (hw _ (List.mem_of_getElem? (i := 167) rfl)) (hw _ (List.mem_of_getElem? (i := 168) rfl)) (hw _ (List.mem_of_getElem? (i := 169) rfl)) (hw _ (List.mem_of_getElem? (i := 130) rfl)) (hw _ (List.mem_of_getElem? (i := 40) rfl)) (hw _ (List.mem_of_getElem? (i := 170) rfl)) (by decide) (by first | rfl | simp [Cond.onTables, Cond.keepsFace, Cond.keeps, Cond.steady]) pd_95176479 rfl rfl (Nat.le_of_ble_eq_true rfl) (Nat.le_of_ble_eq_true rfl) (Nat.le_of_ble_eq_true rfl) (Nat.le_of_ble_eq_true rfl) ?_
  rintro _ _ _ ⟨rfl, rfl, rfl⟩
  obtain ⟨a0, b0, q0, hu0, hg0⟩ := hP (rs[0]) (List.getElem_mem _)
  refine Own.W.cast (pc := 85) (hw _ (List.mem_of_getElem? (i := 184) rfl)) at_85 (Own.Is.mem (List.Mem.tail _ (List.Mem.tail _ hu0))) (Or.inl rfl) ?_
  refine Own.W.callS (pc := 88) (ct_chk G hw hC hF o35 rs[0] xs hx4 hB hs a0 b0 q0 (List.Mem.tail _ (List.Mem.tail _ hu0)) hg0) at_88 (hw _ (List.mem_of_getElem? (i := 186) rfl)) (hw _ (List.mem_of_getElem? (i := 187) rfl)) (hw _ (List.mem_of_getElem? (i := 3) rfl)) (hw _ (List.mem_of_getElem? (i := 188) rfl)) (by decide) pd_68613567 rfl rfl (Nat.le_of_ble_eq_true rfl) (Nat.le_of_ble_eq_true rfl) (Nat.le_of_ble_eq_true rfl) (Nat.le_of_ble_eq_true rfl) ?_
  rintro _ _ _ ⟨rfl, rfl, rfl⟩
  refine Own.W.if_eq (pc := 91) 98 at_91 (by decide) (by decide) (fun h91 => absurd h91 (by decide)) ?_
  intro h91
  refine Own.W.iconst (pc := 94) (z := (1 : Int32)) at_94 (by decide) ?_
  refine Own.W.goto (pc := 95) 99 at_95 (by decide) (by decide) ?_
  refine Own.W.istore (pc := 99) (Ls' := [_, _, _, _, _, _, _, _, _, _, _, _, _]) at_99 rfl rfl ?_
  suffices J138 : Own.W G K x code ret room_1 (Q1) ((l, true, Own.obj "java/util/ArrayList" F_java_util_ArrayList [.int mc, .ref d, .int rs.length.toInt32]) :: (d, true, Own.arr (.object "java/lang/Object") (own_al rs)) :: A0) [] 10 54 138 [.val (.int p0), .val (.int p1), .val (.int p2), .val (.int p3), .val (.int p4), .val (.int p5), .val (.ref o1), .val (.ref o35), .val (.ref l), .val (.int 1), .val (.int rs.length.toInt32), .unset, .unset] [] by
    refine Own.W.iload (pc := 101) at_101 rfl ?_
    refine Own.W.iconst (pc := 103) (z := (1 : Int32)) at_103 (by decide) ?_
    by_cases hk1 : 1 < rs.length
    · refine Own.W.ic_le (pc := 104) 138 at_104 (by decide) (by decide) (fun h104 => absurd h104 (fun q => q (Own.n_lt (a := 1) hk1 (by omega)))) ?_
      intro h104
      refine Own.W.iload (pc := 107) at_107 rfl ?_
      refine Own.W.if_eq (pc := 109) 135 at_109 (by decide) (by decide) (fun h109 => absurd h109 (by decide)) ?_
      intro h109
      refine Own.W.aload (pc := 112) at_112 rfl rfl ?_
      refine Own.W.aload (pc := 114) at_114 rfl rfl ?_
      refine Own.W.iconst (pc := 116) (z := (1 : Int32)) at_116 (by decide) ?_
      refine Own.W.callF (pc := 117) (ct_get G hw l d mc rs (by omega) (List.Mem.head _) (List.Mem.tail _ (List.Mem.head _)) 1 (by omega)) at_117 (C := "java/util/ArrayList") (Own.Is.mem (List.Mem.head _)) (hw _ (List.mem_of_getElem? (i := 163) rfl)) (hw _ (List.mem_of_getElem? (i := 164) rfl)) (hw _ (List.mem_of_getElem? (i := 165) rfl)) (hw _ (List.mem_of_getElem? (i := 166) rfl)) (hw _ (List.mem_of_getElem? (i := 167) rfl)) (hw _ (List.mem_of_getElem? (i := 168) rfl)) (hw _ (List.mem_of_getElem? (i := 169) rfl)) (hw _ (List.mem_of_getElem? (i := 130) rfl)) (hw _ (List.mem_of_getElem? (i := 40) rfl)) (hw _ (List.mem_of_getElem? (i := 170) rfl)) (by decide) (by first | rfl | simp [Cond.onTables, Cond.keepsFace, Cond.keeps, Cond.steady]) pd_95176479 rfl rfl (Nat.le_of_ble_eq_true rfl) (Nat.le_of_ble_eq_true rfl) (Nat.le_of_ble_eq_true rfl) (Nat.le_of_ble_eq_true rfl) ?_
      rintro _ _ _ ⟨rfl, rfl, rfl⟩
      obtain ⟨a1, b1, q1, hu1, hg1⟩ := hP (rs[1]) (List.getElem_mem _)
      refine Own.W.cast (pc := 122) (hw _ (List.mem_of_getElem? (i := 184) rfl)) at_122 (Own.Is.mem (List.Mem.tail _ (List.Mem.tail _ hu1))) (Or.inl rfl) ?_
      refine Own.W.callS (pc := 125) (ct_chk G hw hC hF o35 rs[1] xs hx4 hB hs a1 b1 q1 (List.Mem.tail _ (List.Mem.tail _ hu1)) hg1) at_125 (hw _ (List.mem_of_getElem? (i := 186) rfl)) (hw _ (List.mem_of_getElem? (i := 187) rfl)) (hw _ (List.mem_of_getElem? (i := 3) rfl)) (hw _ (List.mem_of_getElem? (i := 188) rfl)) (by decide) pd_68613567 rfl rfl (Nat.le_of_ble_eq_true rfl) (Nat.le_of_ble_eq_true rfl) (Nat.le_of_ble_eq_true rfl) (Nat.le_of_ble_eq_true rfl) ?_
      rintro _ _ _ ⟨rfl, rfl, rfl⟩
      refine Own.W.if_eq (pc := 128) 135 at_128 (by decide) (by decide) (fun h128 => absurd h128 (by decide)) ?_
      intro h128
      refine Own.W.iconst (pc := 131) (z := (1 : Int32)) at_131 (by decide) ?_
      refine Own.W.goto (pc := 132) 136 at_132 (by decide) (by decide) ?_
      refine Own.W.istore (pc := 136) (Ls' := [_, _, _, _, _, _, _, _, _, _, _, _, _]) at_136 rfl rfl ?_
      exact J138
    · refine Own.W.ic_le (pc := 104) 138 at_104 (by decide) (by decide) ?_ (fun h104 => absurd h104 (fun q => absurd ((Own.n_lt_iff (a := 1) (by decide) (by omega)).mp q) hk1))
      intro h104
      exact J138
  suffices J175 : Own.W G K x code ret room_1 (Q1) ((l, true, Own.obj "java/util/ArrayList" F_java_util_ArrayList [.int mc, .ref d, .int rs.length.toInt32]) :: (d, true, Own.arr (.object "java/lang/Object") (own_al rs)) :: A0) [] 10 54 175 [.val (.int p0), .val (.int p1), .val (.int p2), .val (.int p3), .val (.int p4), .val (.int p5), .val (.ref o1), .val (.ref o35), .val (.ref l), .val (.int 1), .val (.int rs.length.toInt32), .unset, .unset] [] by
    refine Own.W.iload (pc := 138) at_138 rfl ?_
    refine Own.W.iconst (pc := 140) (z := (2 : Int32)) at_140 (by decide) ?_
    by_cases hk2 : 2 < rs.length
    · refine Own.W.ic_le (pc := 141) 175 at_141 (by decide) (by decide) (fun h141 => absurd h141 (fun q => q (Own.n_lt (a := 2) hk2 (by omega)))) ?_
      intro h141
      refine Own.W.iload (pc := 144) at_144 rfl ?_
      refine Own.W.if_eq (pc := 146) 172 at_146 (by decide) (by decide) (fun h146 => absurd h146 (by decide)) ?_
      intro h146
      refine Own.W.aload (pc := 149) at_149 rfl rfl ?_
      refine Own.W.aload (pc := 151) at_151 rfl rfl ?_
      refine Own.W.iconst (pc := 153) (z := (2 : Int32)) at_153 (by decide) ?_
      refine Own.W.callF (pc := 154) (ct_get G hw l d mc rs (by omega) (List.Mem.head _) (List.Mem.tail _ (List.Mem.head _)) 2 (by omega)) at_154 (C := "java/util/ArrayList") (Own.Is.mem (List.Mem.head _)) (hw _ (List.mem_of_getElem? (i := 163) rfl)) (hw _ (List.mem_of_getElem? (i := 164) rfl)) (hw _ (List.mem_of_getElem? (i := 165) rfl)) (hw _ (List.mem_of_getElem? (i := 166) rfl)) (hw _ (List.mem_of_getElem? (i := 167) rfl)) (hw _ (List.mem_of_getElem? (i := 168) rfl)) (hw _ (List.mem_of_getElem? (i := 169) rfl)) (hw _ (List.mem_of_getElem? (i := 130) rfl)) (hw _ (List.mem_of_getElem? (i := 40) rfl)) (hw _ (List.mem_of_getElem? (i := 170) rfl)) (by decide) (by first | rfl | simp [Cond.onTables, Cond.keepsFace, Cond.keeps, Cond.steady]) pd_95176479 rfl rfl (Nat.le_of_ble_eq_true rfl) (Nat.le_of_ble_eq_true rfl) (Nat.le_of_ble_eq_true rfl) (Nat.le_of_ble_eq_true rfl) ?_
      rintro _ _ _ ⟨rfl, rfl, rfl⟩
      obtain ⟨a2, b2, q2, hu2, hg2⟩ := hP (rs[2]) (List.getElem_mem _)
      refine Own.W.cast (pc := 159) (hw _ (List.mem_of_getElem? (i := 184) rfl)) at_159 (Own.Is.mem (List.Mem.tail _ (List.Mem.tail _ hu2))) (Or.inl rfl) ?_
      refine Own.W.callS (pc := 162) (ct_chk G hw hC hF o35 rs[2] xs hx4 hB hs a2 b2 q2 (List.Mem.tail _ (List.Mem.tail _ hu2)) hg2) at_162 (hw _ (List.mem_of_getElem? (i := 186) rfl)) (hw _ (List.mem_of_getElem? (i := 187) rfl)) (hw _ (List.mem_of_getElem? (i := 3) rfl)) (hw _ (List.mem_of_getElem? (i := 188) rfl)) (by decide) pd_68613567 rfl rfl (Nat.le_of_ble_eq_true rfl) (Nat.le_of_ble_eq_true rfl) (Nat.le_of_ble_eq_true rfl) (Nat.le_of_ble_eq_true rfl) ?_
      rintro _ _ _ ⟨rfl, rfl, rfl⟩
      refine Own.W.if_eq (pc := 165) 172 at_165 (by decide) (by decide) (fun h165 => absurd h165 (by decide)) ?_
      intro h165
      refine Own.W.iconst (pc := 168) (z := (1 : Int32)) at_168 (by decide) ?_
      refine Own.W.goto (pc := 169) 173 at_169 (by decide) (by decide) ?_
      refine Own.W.istore (pc := 173) (Ls' := [_, _, _, _, _, _, _, _, _, _, _, _, _]) at_173 rfl rfl ?_
      exact J175
    · refine Own.W.ic_le (pc := 141) 175 at_141 (by decide) (by decide) ?_ (fun h141 => absurd h141 (fun q => absurd ((Own.n_lt_iff (a := 2) (by decide) (by omega)).mp q) hk2))
      intro h141
      exact J175
  suffices J191 : ∀ q : Int32, (q = -1 ∨ ¬ q < 0) → Own.W G K x code ret room_1 (Q1) ((l, true, Own.obj "java/util/ArrayList" F_java_util_ArrayList [.int mc, .ref d, .int rs.length.toInt32]) :: (d, true, Own.arr (.object "java/lang/Object") (own_al rs)) :: A0) [] 10 54 191 [.val (.int p0), .val (.int p1), .val (.int p2), .val (.int p3), .val (.int p4), .val (.int p5), .val (.ref o1), .val (.ref o35), .val (.ref l), .val (.int 1), .val (.int rs.length.toInt32), .unset, .unset] [.int q] by
    refine Own.W.iload (pc := 175) at_175 rfl ?_
    refine Own.W.iconst (pc := 177) (z := (1 : Int32)) at_177 (by decide) ?_
    refine Own.W.iand (pc := 178) at_178 rfl ?_
    refine Own.W.if_eq (pc := 179) 186 at_179 (by decide) (by decide) ?_ ?_
    · intro h179
      refine Own.W.iload (pc := 186) at_186 rfl ?_
      refine Own.W.ldcI (pc := 188) (z := 2147483647) (hw _ (List.mem_of_getElem? (i := 218) rfl)) at_188 ?_
      refine Own.W.iand (pc := 190) at_190 rfl ?_
      first | exact J191 _ (Or.inl rfl) | exact J191 _ (Or.inr (own_pos _))
    · intro h179
      refine Own.W.iconst (pc := 182) (z := (-1 : Int32)) at_182 (by decide) ?_
      refine Own.W.goto (pc := 183) 191 at_183 (by decide) (by decide) ?_
      first | exact J191 _ (Or.inl rfl) | exact J191 _ (Or.inr (own_pos _))
  intro q hq
  refine Own.W.istore (pc := 191) (Ls' := [_, _, _, _, _, _, _, _, _, _, _, _, _]) at_191 rfl rfl ?_
  refine Own.W.new (pc := 193) (hw _ (List.mem_of_getElem? (i := 184) rfl)) (hw _ (List.mem_of_getElem? (i := 107) rfl)) (hw _ (List.mem_of_getElem? (i := 36) rfl)) at_193 (LF_com_example_stairwell_stairwell_sql_UrlParameter G hw) (vs := [.int 0, .int 0, .int 0]) (by decide) (Nat.le_of_ble_eq_true rfl) (Nat.le_of_ble_eq_true rfl) ?_
  intro o193
  refine Own.W.dup (pc := 196) at_196 rfl ?_
  refine Own.W.iloadN (pc := 197) at_197 rfl ?_
  refine Own.W.iload (pc := 198) at_198 rfl ?_
  refine Own.W.iload (pc := 200) at_200 rfl ?_
  refine Own.W.callI (pc := 202) (ct_upi G hw o193 p3 q p5) at_202 rfl (hw _ (List.mem_of_getElem? (i := 217) rfl)) (hw _ (List.mem_of_getElem? (i := 109) rfl)) (hw _ (List.mem_of_getElem? (i := 36) rfl)) (hw _ (List.mem_of_getElem? (i := 110) rfl)) (by decide) pd_86748551 rfl rfl (Nat.le_of_ble_eq_true rfl) (Nat.le_of_ble_eq_true rfl) (Nat.le_of_ble_eq_true rfl) (Nat.le_of_ble_eq_true rfl) ?_
  rintro _ _ _ ⟨rfl, rfl, rfl⟩
  refine Own.W.astore (pc := 205) (Ls' := [_, _, _, _, _, _, _, _, _, _, _, _, _]) at_205 rfl rfl rfl ?_
  refine Own.W.iload (pc := 207) at_207 rfl ?_
  refine Own.W.if_eq (pc := 209) 235 at_209 (by decide) (by decide) (fun h209 => absurd h209 (by decide)) ?_
  intro h209
  refine Own.W.aload (pc := 212) at_212 rfl rfl ?_
  refine Own.W.callV (pc := 214) (ct_uph G hw o193 p3 q p5 (List.Mem.head _)) at_214 (C := "com/example/stairwell/stairwell/sql/UrlParameter") (Own.Is.mem (by repeat (first | exact List.Mem.head _ | assumption | exact List.mem_append_right _ (List.Mem.head _) | apply List.Mem.tail))) (hw _ (List.mem_of_getElem? (i := 212) rfl)) (hw _ (List.mem_of_getElem? (i := 213) rfl)) (Own.nf_sel (hw _ (List.mem_of_getElem? (i := 215) rfl))) (hw _ (List.mem_of_getElem? (i := 215) rfl)) (hw _ (List.mem_of_getElem? (i := 214) rfl)) (hw _ (List.mem_of_getElem? (i := 36) rfl)) (hw _ (List.mem_of_getElem? (i := 216) rfl)) (by decide) pd_93422000 rfl rfl (Nat.le_of_ble_eq_true rfl) (Nat.le_of_ble_eq_true rfl) (Nat.le_of_ble_eq_true rfl) (Nat.le_of_ble_eq_true rfl) ?_
  rintro _ _ _ ⟨rfl, rfl, rfl⟩
  rcases hq with rfl | hq
  · rw [show own_hv (-1) = 0 from by decide]
    refine Own.W.iload (pc := 217) at_217 rfl ?_
    refine Own.W.iconst (pc := 219) (z := (-1 : Int32)) at_219 (by decide) ?_
    refine Own.W.ic_eq (pc := 220) 227 at_220 (by decide) (by decide) ?_ (fun h220 => absurd h220 (fun q => q rfl))
    intro h220
    refine Own.W.iconst (pc := 227) (z := (0 : Int32)) at_227 (by decide) ?_
    refine Own.W.ic_ne (pc := 228) 235 at_228 (by decide) (by decide) (fun h228 => absurd h228 (fun q => q rfl)) ?_
    intro h228
    refine Own.W.iconst (pc := 231) (z := (1 : Int32)) at_231 (by decide) ?_
    refine Own.W.goto (pc := 232) 236 at_232 (by decide) (by decide) ?_
    refine Own.W.istore (pc := 236) (Ls' := [_, _, _, _, _, _, _, _, _, _, _, _, _]) at_236 rfl rfl ?_
    refine Own.W.iload (pc := 238) at_238 rfl ?_
    refine Own.W.iret (pc := 240) at_240 rfl (by simp) (by first | rfl | decide) ?_ (Nat.le_of_ble_eq_true rfl) (Nat.le_of_ble_eq_true rfl)
    exact rfl
  · rw [show own_hv q = 1 from if_neg hq]
    refine Own.W.iload (pc := 217) at_217 rfl ?_
    refine Own.W.iconst (pc := 219) (z := (-1 : Int32)) at_219 (by decide) ?_
    refine Own.W.ic_eq (pc := 220) 227 at_220 (by decide) (by decide) (fun h220 => absurd h220 (fun e => hq (by rw [e]; decide))) ?_
    intro h220
    refine Own.W.iconst (pc := 223) (z := (1 : Int32)) at_223 (by decide) ?_
    refine Own.W.goto (pc := 224) 228 at_224 (by decide) (by decide) ?_
    refine Own.W.ic_ne (pc := 228) 235 at_228 (by decide) (by decide) (fun h228 => absurd h228 (fun q => q rfl)) ?_
    intro h228
    refine Own.W.iconst (pc := 231) (z := (1 : Int32)) at_231 (by decide) ?_
    refine Own.W.goto (pc := 232) 236 at_232 (by decide) (by decide) ?_
    refine Own.W.istore (pc := 236) (Ls' := [_, _, _, _, _, _, _, _, _, _, _, _, _]) at_236 rfl rfl ?_
    refine Own.W.iload (pc := 238) at_238 rfl ?_
    refine Own.W.iret (pc := 240) at_240 rfl (by simp) (by first | rfl | decide) ?_ (Nat.le_of_ble_eq_true rfl) (Nat.le_of_ble_eq_true rfl)
    exact rfl
theorem own_len0 {args : Array Value} {s : State} {t : Term} {a : Addr} {cl : Cell} {ty : FieldType} (ht : t.eval args s none [] s = some (.ref a)) (A : Arr s s.heap a cl ty) (h : (Jvm.Cond.eq (Jvm.Term.length t) (Jvm.Term.int (0 : Int32))).value args s none s [] = some true) : cl.slots.size = 0 := by
  have ha := A.fin (Vm.Alike.refl _)
  by_cases hl : cl.slots.size < 2 ^ 31
  · have q := gotT (Cond.eq_ints (len_f ht ha hl) (Term.int_eval 0)) h
    have := congrArg Int32.toInt q
    rw [len_toInt hl] at this
    have h17 : (0 : Int32).toInt = 0 := rfl
    omega
  · obtain ⟨u, w, h1, -⟩ := cmp_v (Or.inl h)
    simp [Term.eval, ht, ha, hl] at h1
set_option maxRecDepth 65536 in
set_option maxHeartbeats 4000000 in
theorem comes_1 {Post : Tables → Env → Array Value → State → Outcome → State → Prop} (hpost : ∀ tb e args s v u, (limb_1_1.after args s (.returned v) u = true ∧ limb_1_2.after args s (.returned v) u = true) → Jvm.D.Framed s (.returned v) u (Jvm.fieldLocs frame_1_writes args s ++ Jvm.arrayLocs frame_1_arrays args s ++ Jvm.staticLocs frame_1_statics s) 32 192 → Post tb e args s (.returned v) u) :
    ArmFor flags0 classFile x code maxLocals ret World_1 tables_1 room_1 Calls_1 rest_1 Pre_1 Post := by
  intro l hfl _ _ p e ha hc hk s m args below hf hA hF happ hP
  obtain ⟨hcalls, hrest, hpre⟩ := hP
  obtain ⟨-, -, -, hnamed, -, -, -, hat⟩ := (Spec.applies_iff hf).mp happ
  obtain ⟨hg, hn⟩ := and_e (Cond.before_iff.mp (show (Jvm.Cond.and given_1 narrow_1).before args s = true from hpre))
  obtain ⟨hcnt, hgr⟩ := and_e hg
  obtain ⟨ha0, hgr⟩ := and_e hgr
  obtain ⟨ha1, hgr⟩ := and_e hgr
  obtain ⟨ha2, hgr⟩ := and_e hgr
  obtain ⟨ha3, hgr⟩ := and_e hgr
  obtain ⟨ha4, hgr⟩ := and_e hgr
  have ha5 := hgr
  obtain ⟨w0, w1, w2, w3, w4, w5, rfl⟩ : ∃ w0 w1 w2 w3 w4 w5 : Value, args = #[w0, w1, w2, w3, w4, w5] := by
    have hs : args.size = 6 := by simpa [Cond.value, given_1] using hcnt
    obtain ⟨L⟩ := args
    match L, hs with
    | [w0, w1, w2, w3, w4, w5], _ => exact ⟨w0, w1, w2, w3, w4, w5, rfl⟩
  have hw := fun d (hd : d ∈ tables_1) => atoms_spec (ws := Jvm.Cond.code x code maxLocals ret :: tables_1) hat d (List.mem_cons_of_mem _ hd)
  obtain ⟨hsets, hown0⟩ := atoms_of _ (rest_1_c_eq ▸ (show rest_1_c.before _ s = true from hrest))
  obtain ⟨i0, ei0⟩ := is_v ha0
  obtain rfl : w0 = (.int i0) := Option.some.inj ei0
  obtain ⟨i1, ei1⟩ := is_v ha1
  obtain rfl : w1 = (.int i1) := Option.some.inj ei1
  obtain ⟨i2, ei2⟩ := is_v ha2
  obtain rfl : w2 = (.int i2) := Option.some.inj ei2
  obtain ⟨i3, ei3⟩ := is_v ha3
  obtain rfl : w3 = (.int i3) := Option.some.inj ei3
  obtain ⟨i4, ei4⟩ := is_v ha4
  obtain rfl : w4 = (.int i4) := Option.some.inj ei4
  obtain ⟨i5, ei5⟩ := is_v ha5
  obtain rfl : w5 = (.int i5) := Option.some.inj ei5
  obtain ⟨cz, ecz⟩ := is_v (Cond.before_iff.mp (hsets _ (List.mem_of_getElem? (i := 1) rfl)))
  have hC : Own.CSt (l, s, #[.int i0, .int i1, .int i2, .int i3, .int i4, .int i5], true) := ⟨cz, Sta.start ecz (Or.inl (hsets _ (List.mem_of_getElem? (i := 0) rfl))), gotF (Cond.eq_ints ecz (Term.int_eval (0))) (not_v (Cond.before_iff.mp (hsets _ (List.mem_of_getElem? (i := 2) rfl))))⟩
  have hF : ∃ f : Value, Sta s s.heap "jdk/internal/util/Preconditions" "SIOOBE_FORMATTER" "Ljava/util/function/BiFunction;" f ∧ f.isRef = true := by
    obtain ⟨f, hf, hr⟩ := Cond.isRef_spec (hsets _ (List.mem_of_getElem? (i := 8) rfl))
    exact ⟨f, Sta.start hf (Or.inl (hsets _ (List.mem_of_getElem? (i := 7) rfl))), hr⟩
  have na := Cond.before_iff.mp (hsets _ (List.mem_of_getElem? (i := 15) rfl))
  obtain ⟨df, vd⟩ := arr_v na
  have Sd : Sta s s.heap "java/util/ArrayList" "DEFAULTCAPACITY_EMPTY_ELEMENTDATA" "[Ljava/lang/Object;" (.ref df) := Sta.start vd (Or.inr ⟨(hw _ (List.mem_of_getElem? (i := 40) rfl)), (hsets _ (List.mem_of_getElem? (i := 11) rfl))⟩)
  obtain ⟨cl, Ar⟩ := Arr.start vd na
  have hlen : cl.slots.size = 0 := own_len0 vd Ar (Cond.before_iff.mp (hsets _ (List.mem_of_getElem? (i := 17) rfl)))
  have hD : Dflt (l, s, #[.int i0, .int i1, .int i2, .int i3, .int i4, .int i5], true) df := ⟨Sd, cl, Ar, List.eq_nil_of_length_eq_zero (by rw [Array.length_toList, hlen]), by simp, (fun v hv => nomatch hv), (fun q => nomatch q)⟩
  obtain ⟨n, o, g1, g2, g3, v, L, A, I, rfl, rfl, -, -, N, hq, hnw⟩ := ct_law (l, s, #[.int i0, .int i1, .int i2, .int i3, .int i4, .int i5], true) hw tables_1 hC hF df hD i0 i1 i2 i3 i4 i5 p e ha hc hk s m _ below hf ((Spec.applies_iff_loose hf).mp happ).1 ⟨rfl, State.Warmed39.refl s, Own.Inv.start _ _ _ _, Own.LI.start s⟩ (Own.FK.start hf)
  exact ⟨n, _, g1, g2, g3, hpost _ _ _ _ _ _ ⟨Cond.after_iff.mpr rfl, Cond.after_iff.mpr (eq_i res_at (Term.int_eval (1)) rfl)⟩ ⟨⟨_, rfl⟩, hnw rfl, (hq.2.2.2.sift fun y hy => Or.inr (N y hy)).mono (by decide) (by decide)⟩⟩
theorem main_1_1 : Claimed_1_1 := comes_1 fun _ _ _ _ _ _ h hF => ⟨h.1, hF⟩
theorem main_1_2 : Claimed_1_2 := comes_1 fun _ _ _ _ _ _ h hF => ⟨h.2, hF⟩
end Jvm.Pilot.@@N@@
namespace Jvm.Pilot.@@N@@
open Jvm Jvm.ClassFile Sem Op Lib Jvm.Free Jvm.Stand Jvm.Pilot.@@N@@.Jvm.D
/-! MADE BY PROGRAM (witnessworld.py) out of the Statement's table words and the real class files: 32 classes; the members and pool entries that the words name. The judged class is class 1, her method 3. -/
namespace start1
open Jvm.ClassFile
def u (s : String) : CpInfo := .utf8 (stringToUtf16 s)
/-- a pool by its gaps: so many unusable entries, then the entry; so many at the end -/
def gap : Nat → List CpInfo → List CpInfo
  | 0, r => r
  | n + 1, r => .unusable :: gap n r
def poolList (es : List (Nat × CpInfo)) (last : Nat) : List CpInfo := es.foldr (fun e r => gap e.1 (e.2 :: r)) (gap last [])
def pool (es : List (Nat × CpInfo)) (last : Nat) : Array CpInfo := ⟨poolList es last⟩
def fileOf (pool : Array CpInfo) (this : Nat) (attrs : Array Attribute := #[]) (ms : Array MethodInfo := #[]) (fl : Nat := 33) (sup : Nat := 0) (ifs : Array Nat := #[]) (fds : Array FieldInfo := #[]) : ClassFile where
  minorVersion := 0
  majorVersion := 65
  constantPool := pool
  accessFlags := fl
  thisClass := this
  superClass := sup
  interfaces := ifs
  fields := fds
  methods := ms
  attributes := attrs
def plain (name : String) (sup : Option ClassId) : Class where
  name := name
  kind := .ordinary
  loader := none
  accessFlags := 33
  super := sup
  interfaces := #[]
  cf := none
  fields := #[]
  methods := #[]
  instanceTypes := #[]
  staticTypes := #[]
  resolved := #[]
  callSites := []
  init := .initialized
  statics := none
  mirror := none

def pool0 : Array CpInfo := pool [(5, u "<init>"), (0, u "()V"), (1, .class_ 10), (1, u "java/lang/Object")] 113

def k0c0 : Code := { maxStack := 0, maxLocals := 1, code := object_method_1_code, exceptionTable := #[], attributes := #[] }
def k0m0 : Method := { name := "<init>", desc := "()V", sig := { parameters := [], returnType := none }, accessFlags := 1, code := some k0c0 }
/-- java/lang/Object -/
def k0 : Class := { plain "java/lang/Object" none with
  accessFlags := 33
  interfaces := #[]
  cf := some (fileOf pool0 8 #[] #[{ accessFlags := 1, nameIndex := 5, descriptorIndex := 6, attributes := #[] }] 33 0 #[] #[])
  fields := #[]
  methods := #[k0m0]
  instanceTypes := #[]
  staticTypes := #[]
  resolved := Array.replicate 124 none
  statics := none }

def pool1 : Array CpInfo := pool [(2, .class_ 4), (1, u "java/lang/Object"), (0, u "<init>"), (0, u "()V"), (0, .methodref 8 9), (0, .class_ 10), (0, .nameAndType 11 12), (0, u "com/example/stairwell/stairwell/sql/UrlParameter"), (0, u "start"), (0, u "()I"), (0, .methodref 8 14), (0, .nameAndType 15 12), (0, u "end"), (0, .methodref 17 18), (0, .class_ 19), (0, .nameAndType 20 21), (0, u "java/lang/String"), (0, u "charAt"), (0, u "(I)C"), (0, .methodref 8 23), (0, .nameAndType 24 25), (0, u "hasValue"), (0, u "()Z"), (0, .methodref 27 28), (0, .class_ 29), (0, .nameAndType 30 21), (0, u "com/example/stairwell/stairwell/sql/UrlParameterHasValuePinLaw"), (0, u "pick"), (0, .methodref 17 32), (0, .nameAndType 5 33), (0, u "([C)V"), (0, .methodref 8 35), (0, .nameAndType 36 37), (0, u "in"), (0, u "(Ljava/lang/String;)Ljava/util/List;"), (0, .interfaceMethodref 39 40), (0, .class_ 41), (0, .nameAndType 42 12), (0, u "java/util/List"), (0, u "size"), (0, .interfaceMethodref 39 44), (0, .nameAndType 45 46), (0, u "get"), (0, u "(I)Ljava/lang/Object;"), (0, .methodref 27 48), (0, .nameAndType 49 50), (0, u "check"), (0, u "(Ljava/lang/String;Lcom/example/stairwell/stairwell/sql/UrlParameter;)Z"), (0, .integer 2147483647), (0, .methodref 8 53), (0, .nameAndType 5 54), (0, u "(III)V"), (3, u "law"), (0, u "(IIIIII)Z")] 4

def k1m0 : Method := { name := "<init>", desc := "()V", sig := { parameters := [], returnType := none }, accessFlags := 1, code := none }
def k1c1 : Code := { maxStack := 2, maxLocals := 2, code := method_2_code, exceptionTable := #[], attributes := #[] }
def k1m1 : Method := { name := "pick", desc := "(I)C", sig := { parameters := [.int], returnType := some .char }, accessFlags := 10, code := some k1c1 }
def k1c2 : Code := { maxStack := 3, maxLocals := 5, code := method_3_code, exceptionTable := #[], attributes := #[] }
def k1m2 : Method := { name := "check", desc := "(Ljava/lang/String;Lcom/example/stairwell/stairwell/sql/UrlParameter;)Z", sig := { parameters := [(.object "java/lang/String"), (.object "com/example/stairwell/stairwell/sql/UrlParameter")], returnType := some .boolean }, accessFlags := 10, code := some k1c2 }
def k1c3 : Code := { maxStack := 5, maxLocals := 13, code := code, exceptionTable := #[], attributes := #[] }
def k1m3 : Method := { name := "law", desc := "(IIIIII)Z", sig := { parameters := [.int, .int, .int, .int, .int, .int], returnType := some .boolean }, accessFlags := 9, code := some k1c3 }
/-- com/example/stairwell/stairwell/sql/UrlParameterHasValuePinLaw -/
def k1 : Class := { plain "com/example/stairwell/stairwell/sql/UrlParameterHasValuePinLaw" (some 0) with
  accessFlags := 49
  interfaces := #[]
  cf := some (fileOf pool1 27 #[] #[{ accessFlags := 1, nameIndex := 5, descriptorIndex := 6, attributes := #[] }, { accessFlags := 10, nameIndex := 30, descriptorIndex := 21, attributes := #[] }, { accessFlags := 10, nameIndex := 49, descriptorIndex := 50, attributes := #[] }, { accessFlags := 9, nameIndex := 58, descriptorIndex := 59, attributes := #[] }] 49 2 #[] #[])
  fields := #[]
  methods := #[k1m0, k1m1, k1m2, k1m3]
  instanceTypes := #[]
  staticTypes := #[]
  resolved := Array.replicate 64 none
  statics := none }

def pool2 : Array CpInfo := pool [(1, .class_ 2), (0, u "java/io/Serializable"), (0, .class_ 4), (0, u "java/lang/Object")] 2

/-- java/io/Serializable -/
def k2 : Class := { plain "java/io/Serializable" (some 0) with
  accessFlags := 1537
  interfaces := #[]
  cf := some (fileOf pool2 1 #[] #[] 1537 3 #[] #[])
  fields := #[]
  methods := #[]
  instanceTypes := #[]
  staticTypes := #[]
  resolved := Array.replicate 7 none
  statics := none }

def pool3 : Array CpInfo := pool [(1, .class_ 2), (0, u "java/lang/Comparable"), (0, .class_ 4), (0, u "java/lang/Object")] 7

/-- java/lang/Comparable -/
def k3 : Class := { plain "java/lang/Comparable" (some 0) with
  accessFlags := 1537
  interfaces := #[]
  cf := some (fileOf pool3 1 #[] #[] 1537 3 #[] #[])
  fields := #[]
  methods := #[]
  instanceTypes := #[]
  staticTypes := #[]
  resolved := Array.replicate 12 none
  statics := none }

def pool4 : Array CpInfo := pool [(2, .class_ 4), (1, u "java/lang/CharSequence"), (42, .class_ 48), (0, u "java/lang/CharSequence$1CodePointIterator"), (10, .class_ 60), (0, u "java/lang/CharSequence$1CharIterator"), (5, .class_ 67), (0, u "java/lang/Object")] 63

/-- java/lang/CharSequence -/
def k4 : Class := { plain "java/lang/CharSequence" (some 0) with
  accessFlags := 1537
  interfaces := #[]
  cf := some (fileOf pool4 2 #[.nestMembers #[47, 59]] #[] 1537 66 #[] #[])
  fields := #[]
  methods := #[]
  instanceTypes := #[]
  staticTypes := #[]
  resolved := Array.replicate 131 none
  statics := none }

def pool5 : Array CpInfo := pool [(1, .class_ 2), (0, u "java/lang/constant/Constable"), (0, .class_ 4), (0, u "java/lang/Object")] 6

/-- java/lang/constant/Constable -/
def k5 : Class := { plain "java/lang/constant/Constable" (some 0) with
  accessFlags := 1537
  interfaces := #[]
  cf := some (fileOf pool5 1 #[] #[] 1537 3 #[] #[])
  fields := #[]
  methods := #[]
  instanceTypes := #[]
  staticTypes := #[]
  resolved := Array.replicate 11 none
  statics := none }

def pool6 : Array CpInfo := pool [(1, .class_ 2), (0, u "java/lang/constant/ConstantDesc"), (0, .class_ 4), (0, u "java/lang/Object")] 32

/-- java/lang/constant/ConstantDesc -/
def k6 : Class := { plain "java/lang/constant/ConstantDesc" (some 0) with
  accessFlags := 1537
  interfaces := #[]
  cf := some (fileOf pool6 1 #[] #[] 1537 3 #[] #[])
  fields := #[]
  methods := #[]
  instanceTypes := #[]
  staticTypes := #[]
  resolved := Array.replicate 37 none
  statics := none }

def pool7 : Array CpInfo := pool [(1, .methodref 2 3), (0, .class_ 4), (0, .nameAndType 5 6), (0, u "java/lang/Object"), (0, u "<init>"), (0, u "()V"), (2, .fieldref 10 11), (0, .class_ 12), (0, .nameAndType 13 14), (0, u "java/lang/String"), (0, u "value"), (0, u "[B"), (0, .fieldref 10 16), (0, .nameAndType 17 18), (0, u "coder"), (0, u "B"), (2, u "hash"), (0, u "I"), (2, u "hashIsZero"), (0, u "Z"), (0, .methodref 10 28), (0, .nameAndType 5 29), (0, u "([CIILjava/lang/Void;)V"), (8, .fieldref 10 39), (0, .nameAndType 40 26), (0, u "COMPACT_STRINGS"), (1, .class_ 44), (1, u "java/lang/StringUTF16"), (0, u "compress"), (1, .methodref 42 48), (0, .nameAndType 49 50), (0, u "coderFromArrayLen"), (0, u "([BI)B"), (56, .class_ 109), (1, u "java/lang/StringLatin1"), (32, u "()Z"), (34, .methodref 42 178), (0, .nameAndType 45 179), (0, u "([CII)[B"), (154, u "()I"), (0, .methodref 10 336), (0, .nameAndType 17 337), (0, u "()B"), (25, u "([BI)C"), (27, u "(II)V"), (35, u "(I)C"), (64, .methodref 10 493), (0, .nameAndType 494 142), (0, u "isLatin1"), (0, .methodref 107 496), (0, .nameAndType 497 363), (0, u "charAt"), (3, u "checkIndex"), (3, .methodref 10 506), (0, .nameAndType 507 334), (0, u "length"), (67, .class_ 576), (0, u "java/lang/CharSequence"), (22, u "CASE_INSENSITIVE_ORDER"), (0, u "Ljava/util/Comparator;"), (32, .methodref 10 634), (0, .nameAndType 635 636), (0, u "indexOf"), (0, u "(II)I"), (0, .methodref 107 638), (0, .nameAndType 635 639), (0, u "([BIII)I"), (125, u "(I)I"), (244, u "([C)V"), (42, .fieldref 1054 1055), (0, .class_ 1056), (0, .nameAndType 1057 1058), (0, u "jdk/internal/util/Preconditions"), (0, u "SIOOBE_FORMATTER"), (0, u "Ljava/util/function/BiFunction;"), (0, .methodref 1054 1060), (0, .nameAndType 501 1061), (0, u "(IILjava/util/function/BiFunction;)I"), (39, u "serialPersistentFields"), (0, u "[Ljava/io/ObjectStreamField;"), (0, .class_ 1104), (0, u "java/lang/String$CaseInsensitiveComparator"), (1, .class_ 1107), (0, u "java/io/Serializable"), (0, .class_ 1109), (0, u "java/lang/Comparable"), (0, .class_ 1111), (0, u "java/lang/constant/Constable"), (0, .class_ 1113), (0, u "java/lang/constant/ConstantDesc"), (2, u "serialVersionUID"), (0, u "J"), (3, u "REPL"), (0, u "C"), (2, u "LATIN1"), (1, u "UTF16")] 323

def k7m0 : Method := { name := "<init>", desc := "()V", sig := { parameters := [], returnType := none }, accessFlags := 1, code := none }
def k7c1 : Code := { maxStack := 5, maxLocals := 2, code := jdk_42_method_3_code, exceptionTable := #[], attributes := #[] }
def k7m1 : Method := { name := "<init>", desc := "([C)V", sig := { parameters := [(.array .char)], returnType := none }, accessFlags := 1, code := some k7c1 }
def k7c2 : Code := { maxStack := 2, maxLocals := 1, code := jdk_42_method_54_code, exceptionTable := #[], attributes := #[] }
def k7m2 : Method := { name := "length", desc := "()I", sig := { parameters := [], returnType := some .int }, accessFlags := 1, code := some k7c2 }
def k7c3 : Code := { maxStack := 2, maxLocals := 2, code := jdk_42_method_56_code, exceptionTable := #[], attributes := #[] }
def k7m3 : Method := { name := "charAt", desc := "(I)C", sig := { parameters := [.int], returnType := some .char }, accessFlags := 1, code := some k7c3 }
def k7c4 : Code := { maxStack := 3, maxLocals := 2, code := jdk_42_method_79_code, exceptionTable := #[], attributes := #[] }
def k7m4 : Method := { name := "indexOf", desc := "(I)I", sig := { parameters := [.int], returnType := some .int }, accessFlags := 1, code := some k7c4 }
def k7c5 : Code := { maxStack := 4, maxLocals := 3, code := jdk_42_method_80_code, exceptionTable := #[], attributes := #[] }
def k7m5 : Method := { name := "indexOf", desc := "(II)I", sig := { parameters := [.int, .int], returnType := some .int }, accessFlags := 1, code := some k7c5 }
def k7c6 : Code := { maxStack := 4, maxLocals := 6, code := jdk_42_method_149_code, exceptionTable := #[], attributes := #[] }
def k7m6 : Method := { name := "<init>", desc := "([CIILjava/lang/Void;)V", sig := { parameters := [(.array .char), .int, .int, (.object "java/lang/Void")], returnType := none }, accessFlags := 2, code := some k7c6 }
def k7c7 : Code := { maxStack := 1, maxLocals := 1, code := jdk_42_method_152_code, exceptionTable := #[], attributes := #[] }
def k7m7 : Method := { name := "coder", desc := "()B", sig := { parameters := [], returnType := some .byte }, accessFlags := 0, code := some k7c7 }
def k7c8 : Code := { maxStack := 1, maxLocals := 1, code := jdk_42_method_154_code, exceptionTable := #[], attributes := #[] }
def k7m8 : Method := { name := "isLatin1", desc := "()Z", sig := { parameters := [], returnType := some .boolean }, accessFlags := 0, code := some k7c8 }
def k7c9 : Code := { maxStack := 3, maxLocals := 2, code := jdk_42_method_155_code, exceptionTable := #[], attributes := #[] }
def k7m9 : Method := { name := "checkIndex", desc := "(II)V", sig := { parameters := [.int, .int], returnType := none }, accessFlags := 8, code := some k7c9 }
/-- java/lang/String -/
def k7 : Class := { plain "java/lang/String" (some 0) with
  accessFlags := 49
  interfaces := #[2, 3, 4, 5, 6]
  cf := some (fileOf pool7 10 #[.nestMembers #[1103]] #[{ accessFlags := 1, nameIndex := 5, descriptorIndex := 6, attributes := #[] }, { accessFlags := 1, nameIndex := 5, descriptorIndex := 1010, attributes := #[] }, { accessFlags := 1, nameIndex := 507, descriptorIndex := 334, attributes := #[] }, { accessFlags := 1, nameIndex := 497, descriptorIndex := 427, attributes := #[] }, { accessFlags := 1, nameIndex := 635, descriptorIndex := 765, attributes := #[] }, { accessFlags := 1, nameIndex := 635, descriptorIndex := 636, attributes := #[] }, { accessFlags := 2, nameIndex := 5, descriptorIndex := 29, attributes := #[] }, { accessFlags := 0, nameIndex := 17, descriptorIndex := 337, attributes := #[] }, { accessFlags := 0, nameIndex := 494, descriptorIndex := 142, attributes := #[] }, { accessFlags := 8, nameIndex := 501, descriptorIndex := 391, attributes := #[] }] 49 2 #[1106, 1108, 575, 1110, 1112] #[{ accessFlags := 18, nameIndex := 13, descriptorIndex := 14, attributes := #[] }, { accessFlags := 18, nameIndex := 17, descriptorIndex := 18, attributes := #[] }, { accessFlags := 2, nameIndex := 21, descriptorIndex := 22, attributes := #[] }, { accessFlags := 2, nameIndex := 25, descriptorIndex := 26, attributes := #[] }, { accessFlags := 26, nameIndex := 1116, descriptorIndex := 1117, attributes := #[] }, { accessFlags := 24, nameIndex := 40, descriptorIndex := 26, attributes := #[] }, { accessFlags := 26, nameIndex := 1101, descriptorIndex := 1102, attributes := #[] }, { accessFlags := 26, nameIndex := 1121, descriptorIndex := 1122, attributes := #[] }, { accessFlags := 25, nameIndex := 599, descriptorIndex := 600, attributes := #[] }, { accessFlags := 24, nameIndex := 1125, descriptorIndex := 18, attributes := #[] }, { accessFlags := 24, nameIndex := 1127, descriptorIndex := 18, attributes := #[] }])
  fields := #[{ name := "value", type := (.array .byte), accessFlags := 18, slot := 0, constantValue := 0 }, { name := "coder", type := .byte, accessFlags := 18, slot := 1, constantValue := 0 }, { name := "hash", type := .int, accessFlags := 2, slot := 2, constantValue := 0 }, { name := "hashIsZero", type := .boolean, accessFlags := 2, slot := 3, constantValue := 0 }, { name := "serialVersionUID", type := .long, accessFlags := 26, slot := 0, constantValue := 0 }, { name := "COMPACT_STRINGS", type := .boolean, accessFlags := 24, slot := 1, constantValue := 0 }, { name := "serialPersistentFields", type := (.array (.object "java/io/ObjectStreamField")), accessFlags := 26, slot := 2, constantValue := 0 }, { name := "REPL", type := .char, accessFlags := 26, slot := 3, constantValue := 0 }, { name := "CASE_INSENSITIVE_ORDER", type := (.object "java/util/Comparator"), accessFlags := 25, slot := 4, constantValue := 0 }, { name := "LATIN1", type := .byte, accessFlags := 24, slot := 5, constantValue := 0 }, { name := "UTF16", type := .byte, accessFlags := 24, slot := 6, constantValue := 0 }]
  methods := #[k7m0, k7m1, k7m2, k7m3, k7m4, k7m5, k7m6, k7m7, k7m8, k7m9]
  instanceTypes := #[(.array .byte), .byte, .int, .boolean]
  staticTypes := #[.long, .boolean, (.array (.object "java/io/ObjectStreamField")), .char, (.object "java/util/Comparator"), .byte, .byte]
  resolved := Array.replicate 1451 none
  statics := some 0 }

def pool8 : Array CpInfo := pool [(6, .class_ 8), (1, u "java/lang/Object"), (0, u "<init>"), (0, u "()V"), (1, .class_ 14), (1, u "java/lang/StringUTF16"), (31, u "$assertionsDisabled"), (0, u "Z"), (13, u "HI_BYTE_SHIFT"), (0, u "I"), (2, u "LO_BYTE_SHIFT"), (49, .methodref 12 116), (0, .nameAndType 117 118), (0, u "compress"), (0, u "([CI[BII)I"), (3, u "([CII)[B"), (138, u "coderFromArrayLen"), (0, u "([BI)B"), (106, .class_ 371), (1, u "java/lang/StringUTF16$LinesSpliterator"), (58, u "MAX_LENGTH"), (196, .class_ 628), (0, u "java/lang/StringUTF16$CodePointsSpliterator"), (0, .class_ 630), (0, u "java/lang/StringUTF16$CharsSpliterator")] 4

def k8m0 : Method := { name := "<init>", desc := "()V", sig := { parameters := [], returnType := none }, accessFlags := 0, code := none }
def k8c1 : Code := { maxStack := 2, maxLocals := 2, code := jdk_52_method_15_code, exceptionTable := #[], attributes := #[] }
def k8m1 : Method := { name := "coderFromArrayLen", desc := "([BI)B", sig := { parameters := [(.array .byte), .int], returnType := some .byte }, accessFlags := 8, code := some k8c1 }
def k8c2 : Code := { maxStack := 5, maxLocals := 6, code := jdk_52_method_16_code, exceptionTable := #[], attributes := #[] }
def k8m2 : Method := { name := "compress", desc := "([CII)[B", sig := { parameters := [(.array .char), .int, .int], returnType := some (.array .byte) }, accessFlags := 9, code := some k8c2 }
def k8c3 : Code := { maxStack := 3, maxLocals := 7, code := jdk_52_method_21_code, exceptionTable := #[], attributes := #[] }
def k8m3 : Method := { name := "compress", desc := "([CI[BII)I", sig := { parameters := [(.array .char), .int, (.array .byte), .int, .int], returnType := some .int }, accessFlags := 9, code := some k8c3 }
/-- java/lang/StringUTF16 -/
def k8 : Class := { plain "java/lang/StringUTF16" (some 0) with
  accessFlags := 48
  interfaces := #[]
  cf := some (fileOf pool8 12 #[.nestMembers #[627, 629, 369]] #[{ accessFlags := 0, nameIndex := 9, descriptorIndex := 10, attributes := #[] }, { accessFlags := 8, nameIndex := 261, descriptorIndex := 262, attributes := #[] }, { accessFlags := 9, nameIndex := 117, descriptorIndex := 122, attributes := #[] }, { accessFlags := 9, nameIndex := 117, descriptorIndex := 118, attributes := #[] }] 48 6 #[] #[{ accessFlags := 26, nameIndex := 61, descriptorIndex := 62, attributes := #[] }, { accessFlags := 26, nameIndex := 65, descriptorIndex := 62, attributes := #[] }, { accessFlags := 24, nameIndex := 430, descriptorIndex := 62, attributes := #[] }, { accessFlags := 4120, nameIndex := 46, descriptorIndex := 47, attributes := #[] }])
  fields := #[{ name := "HI_BYTE_SHIFT", type := .int, accessFlags := 26, slot := 0, constantValue := 0 }, { name := "LO_BYTE_SHIFT", type := .int, accessFlags := 26, slot := 1, constantValue := 0 }, { name := "MAX_LENGTH", type := .int, accessFlags := 24, slot := 2, constantValue := 0 }, { name := "$assertionsDisabled", type := .boolean, accessFlags := 4120, slot := 3, constantValue := 0 }]
  methods := #[k8m0, k8m1, k8m2, k8m3]
  instanceTypes := #[]
  staticTypes := #[.int, .int, .int, .boolean]
  resolved := Array.replicate 635 none
  statics := none }

def pool9 : Array CpInfo := pool [(1, .methodref 2 3), (0, .class_ 4), (0, .nameAndType 5 6), (0, u "java/lang/Object"), (0, u "<init>"), (0, u "()V"), (0, .class_ 8), (0, u "java/lang/Record")] 13

def k9c0 : Code := { maxStack := 1, maxLocals := 1, code := jdk_30_method_1_code, exceptionTable := #[], attributes := #[] }
def k9m0 : Method := { name := "<init>", desc := "()V", sig := { parameters := [], returnType := none }, accessFlags := 4, code := some k9c0 }
/-- java/lang/Record -/
def k9 : Class := { plain "java/lang/Record" (some 0) with
  accessFlags := 1057
  interfaces := #[]
  cf := some (fileOf pool9 7 #[] #[{ accessFlags := 4, nameIndex := 5, descriptorIndex := 6, attributes := #[] }] 1057 2 #[] #[])
  fields := #[]
  methods := #[k9m0]
  instanceTypes := #[]
  staticTypes := #[]
  resolved := Array.replicate 22 none
  statics := none }

def pool10 : Array CpInfo := pool [(1, .methodref 2 3), (0, .class_ 4), (0, .nameAndType 5 6), (0, u "java/lang/Record"), (0, u "<init>"), (0, u "()V"), (0, .fieldref 8 9), (0, .class_ 10), (0, .nameAndType 11 12), (0, u "com/example/stairwell/stairwell/sql/UrlParameter"), (0, u "start"), (0, u "I"), (0, .fieldref 8 14), (0, .nameAndType 15 12), (0, u "equals"), (0, .fieldref 8 17), (0, .nameAndType 18 12), (0, u "end"), (0, .class_ 20), (0, u "java/util/ArrayList"), (0, .methodref 19 3), (0, .methodref 23 24), (0, .class_ 25), (0, .nameAndType 26 27), (0, u "java/lang/String"), (0, u "indexOf"), (0, u "(I)I"), (0, .methodref 23 29), (0, .nameAndType 30 31), (0, u "length"), (0, u "()I"), (0, .methodref 23 33), (0, .nameAndType 26 34), (0, u "(II)I"), (0, .methodref 8 36), (0, .nameAndType 5 37), (0, u "(III)V"), (0, .interfaceMethodref 39 40), (0, .class_ 41), (0, .nameAndType 42 43), (0, u "java/util/List"), (0, u "add"), (0, u "(Ljava/lang/Object;)Z"), (2, u "in"), (0, u "(Ljava/lang/String;)Ljava/util/List;"), (9, u "()Z"), (16, u "hasValue")] 47

def k10c0 : Code := { maxStack := 2, maxLocals := 4, code := prog_78_method_1_code, exceptionTable := #[], attributes := #[] }
def k10m0 : Method := { name := "<init>", desc := "(III)V", sig := { parameters := [.int, .int, .int], returnType := none }, accessFlags := 0, code := some k10c0 }
def k10c1 : Code := { maxStack := 6, maxLocals := 6, code := prog_78_method_2_code, exceptionTable := #[], attributes := #[] }
def k10m1 : Method := { name := "in", desc := "(Ljava/lang/String;)Ljava/util/List;", sig := { parameters := [(.object "java/lang/String")], returnType := some (.object "java/util/List") }, accessFlags := 8, code := some k10c1 }
def k10c2 : Code := { maxStack := 1, maxLocals := 1, code := prog_78_method_4_code, exceptionTable := #[], attributes := #[] }
def k10m2 : Method := { name := "hasValue", desc := "()Z", sig := { parameters := [], returnType := some .boolean }, accessFlags := 0, code := some k10c2 }
def k10c3 : Code := { maxStack := 1, maxLocals := 1, code := prog_78_method_9_code, exceptionTable := #[], attributes := #[] }
def k10m3 : Method := { name := "start", desc := "()I", sig := { parameters := [], returnType := some .int }, accessFlags := 1, code := some k10c3 }
def k10c4 : Code := { maxStack := 1, maxLocals := 1, code := prog_78_method_11_code, exceptionTable := #[], attributes := #[] }
def k10m4 : Method := { name := "end", desc := "()I", sig := { parameters := [], returnType := some .int }, accessFlags := 1, code := some k10c4 }
/-- com/example/stairwell/stairwell/sql/UrlParameter -/
def k10 : Class := { plain "com/example/stairwell/stairwell/sql/UrlParameter" (some 9) with
  accessFlags := 48
  interfaces := #[]
  cf := some (fileOf pool10 8 #[] #[{ accessFlags := 0, nameIndex := 5, descriptorIndex := 37, attributes := #[] }, { accessFlags := 8, nameIndex := 46, descriptorIndex := 47, attributes := #[] }, { accessFlags := 0, nameIndex := 74, descriptorIndex := 57, attributes := #[] }, { accessFlags := 1, nameIndex := 11, descriptorIndex := 31, attributes := #[] }, { accessFlags := 1, nameIndex := 18, descriptorIndex := 31, attributes := #[] }] 48 2 #[] #[{ accessFlags := 18, nameIndex := 11, descriptorIndex := 12, attributes := #[] }, { accessFlags := 18, nameIndex := 15, descriptorIndex := 12, attributes := #[] }, { accessFlags := 18, nameIndex := 18, descriptorIndex := 12, attributes := #[] }])
  fields := #[{ name := "start", type := .int, accessFlags := 18, slot := 0, constantValue := 0 }, { name := "equals", type := .int, accessFlags := 18, slot := 1, constantValue := 0 }, { name := "end", type := .int, accessFlags := 18, slot := 2, constantValue := 0 }]
  methods := #[k10m0, k10m1, k10m2, k10m3, k10m4]
  instanceTypes := #[.int, .int, .int]
  staticTypes := #[]
  resolved := Array.replicate 122 none
  statics := none }

def pool11 : Array CpInfo := pool [(8, .class_ 10), (1, u "java/lang/Iterable"), (24, .class_ 36), (0, u "java/lang/Object")] 25

/-- java/lang/Iterable -/
def k11 : Class := { plain "java/lang/Iterable" (some 0) with
  accessFlags := 1537
  interfaces := #[]
  cf := some (fileOf pool11 8 #[] #[] 1537 35 #[] #[])
  fields := #[]
  methods := #[]
  instanceTypes := #[]
  staticTypes := #[]
  resolved := Array.replicate 62 none
  statics := none }

def pool12 : Array CpInfo := pool [(10, .class_ 12), (1, u "java/util/Collection"), (47, .class_ 61), (0, u "java/lang/Object"), (0, .class_ 63), (0, u "java/lang/Iterable")] 51

/-- java/util/Collection -/
def k12 : Class := { plain "java/util/Collection" (some 0) with
  accessFlags := 1537
  interfaces := #[11]
  cf := some (fileOf pool12 10 #[] #[] 1537 60 #[62] #[])
  fields := #[]
  methods := #[]
  instanceTypes := #[]
  staticTypes := #[]
  resolved := Array.replicate 115 none
  statics := none }

def pool13 : Array CpInfo := pool [(1, .methodref 2 3), (0, .class_ 4), (0, .nameAndType 5 6), (0, u "java/lang/Object"), (0, u "<init>"), (0, u "()V"), (1, .class_ 10), (1, u "java/util/AbstractCollection"), (66, .class_ 78), (0, u "java/util/Collection")] 81

def k13c0 : Code := { maxStack := 1, maxLocals := 1, code := jdk_22_method_1_code, exceptionTable := #[], attributes := #[] }
def k13m0 : Method := { name := "<init>", desc := "()V", sig := { parameters := [], returnType := none }, accessFlags := 4, code := some k13c0 }
/-- java/util/AbstractCollection -/
def k13 : Class := { plain "java/util/AbstractCollection" (some 0) with
  accessFlags := 1057
  interfaces := #[12]
  cf := some (fileOf pool13 8 #[] #[{ accessFlags := 4, nameIndex := 5, descriptorIndex := 6, attributes := #[] }] 1057 2 #[77] #[])
  fields := #[]
  methods := #[k13m0]
  instanceTypes := #[]
  staticTypes := #[]
  resolved := Array.replicate 160 none
  statics := none }

def pool14 : Array CpInfo := pool [(8, .class_ 10), (1, u "java/util/SequencedCollection"), (15, .class_ 27), (0, u "java/lang/Object"), (0, .class_ 29), (0, u "java/util/Collection")] 27

/-- java/util/SequencedCollection -/
def k14 : Class := { plain "java/util/SequencedCollection" (some 0) with
  accessFlags := 1537
  interfaces := #[12]
  cf := some (fileOf pool14 8 #[] #[] 1537 26 #[28] #[])
  fields := #[]
  methods := #[]
  instanceTypes := #[]
  staticTypes := #[]
  resolved := Array.replicate 57 none
  statics := none }

def pool15 : Array CpInfo := pool [(8, .class_ 10), (1, u "java/util/List"), (49, u "add"), (3, u "(Ljava/lang/Object;)Z"), (10, u "get"), (0, u "(I)Ljava/lang/Object;"), (2, u "size"), (0, u "()I"), (22, .class_ 104), (0, u "java/lang/Object"), (15, .class_ 121), (0, u "java/util/SequencedCollection")] 129

def k15m0 : Method := { name := "size", desc := "()I", sig := { parameters := [], returnType := some .int }, accessFlags := 1025, code := none }
def k15m1 : Method := { name := "add", desc := "(Ljava/lang/Object;)Z", sig := { parameters := [(.object "java/lang/Object")], returnType := some .boolean }, accessFlags := 1025, code := none }
def k15m2 : Method := { name := "get", desc := "(I)Ljava/lang/Object;", sig := { parameters := [.int], returnType := some (.object "java/lang/Object") }, accessFlags := 1025, code := none }
/-- java/util/List -/
def k15 : Class := { plain "java/util/List" (some 0) with
  accessFlags := 1537
  interfaces := #[14]
  cf := some (fileOf pool15 8 #[] #[{ accessFlags := 1025, nameIndex := 79, descriptorIndex := 80, attributes := #[] }, { accessFlags := 1025, nameIndex := 60, descriptorIndex := 64, attributes := #[] }, { accessFlags := 1025, nameIndex := 75, descriptorIndex := 76, attributes := #[] }] 1537 103 #[120] #[])
  fields := #[]
  methods := #[k15m0, k15m1, k15m2]
  instanceTypes := #[]
  staticTypes := #[]
  resolved := Array.replicate 251 none
  statics := none }

def pool16 : Array CpInfo := pool [(1, .methodref 2 3), (0, .class_ 4), (0, .nameAndType 5 6), (0, u "java/util/AbstractCollection"), (0, u "<init>"), (0, u "()V"), (0, .fieldref 8 9), (0, .class_ 10), (0, .nameAndType 11 12), (0, u "java/util/AbstractList"), (0, u "modCount"), (0, u "I"), (64, .class_ 78), (0, u "java/util/AbstractList$Itr"), (3, .class_ 83), (0, u "java/util/AbstractList$ListItr"), (9, .class_ 94), (0, u "java/util/AbstractList$RandomAccessSubList"), (3, .class_ 99), (0, u "java/util/AbstractList$SubList"), (33, .class_ 134), (0, u "java/util/List"), (73, .class_ 209), (0, u "java/util/AbstractList$SubList$1"), (0, .class_ 211), (0, u "java/util/AbstractList$RandomAccessSpliterator")] 6

def k16c0 : Code := { maxStack := 2, maxLocals := 1, code := jdk_39_method_1_code, exceptionTable := #[], attributes := #[] }
def k16m0 : Method := { name := "<init>", desc := "()V", sig := { parameters := [], returnType := none }, accessFlags := 4, code := some k16c0 }
/-- java/util/AbstractList -/
def k16 : Class := { plain "java/util/AbstractList" (some 13) with
  accessFlags := 1057
  interfaces := #[15]
  cf := some (fileOf pool16 8 #[.nestMembers #[93, 98, 208, 210, 82, 77]] #[{ accessFlags := 4, nameIndex := 5, descriptorIndex := 6, attributes := #[] }] 1057 2 #[133] #[{ accessFlags := 132, nameIndex := 11, descriptorIndex := 12, attributes := #[] }])
  fields := #[{ name := "modCount", type := .int, accessFlags := 132, slot := 0, constantValue := 0 }]
  methods := #[k16m0]
  instanceTypes := #[.int]
  staticTypes := #[]
  resolved := Array.replicate 218 none
  statics := none }

def pool17 : Array CpInfo := pool [(1, .class_ 2), (0, u "java/util/RandomAccess"), (0, .class_ 4), (0, u "java/lang/Object")] 2

/-- java/util/RandomAccess -/
def k17 : Class := { plain "java/util/RandomAccess" (some 0) with
  accessFlags := 1537
  interfaces := #[]
  cf := some (fileOf pool17 1 #[] #[] 1537 3 #[] #[])
  fields := #[]
  methods := #[]
  instanceTypes := #[]
  staticTypes := #[]
  resolved := Array.replicate 7 none
  statics := none }

def pool18 : Array CpInfo := pool [(1, .class_ 2), (0, u "java/lang/Cloneable"), (0, .class_ 4), (0, u "java/lang/Object")] 2

/-- java/lang/Cloneable -/
def k18 : Class := { plain "java/lang/Cloneable" (some 0) with
  accessFlags := 1537
  interfaces := #[]
  cf := some (fileOf pool18 1 #[] #[] 1537 3 #[] #[])
  fields := #[]
  methods := #[]
  instanceTypes := #[]
  staticTypes := #[]
  resolved := Array.replicate 7 none
  statics := none }

def pool19 : Array CpInfo := pool [(1, .methodref 2 3), (0, .class_ 4), (0, .nameAndType 5 6), (0, u "java/util/AbstractList"), (0, u "<init>"), (0, u "()V"), (0, .class_ 8), (0, u "java/lang/Object"), (0, .fieldref 10 11), (0, .class_ 12), (0, .nameAndType 13 14), (0, u "java/util/ArrayList"), (0, u "elementData"), (0, u "[Ljava/lang/Object;"), (2, u "EMPTY_ELEMENTDATA"), (21, .fieldref 10 40), (0, .nameAndType 41 14), (0, u "DEFAULTCAPACITY_EMPTY_ELEMENTDATA"), (5, u "()[Ljava/lang/Object;"), (0, .fieldref 10 49), (0, .nameAndType 50 51), (0, u "size"), (0, u "I"), (11, .fieldref 10 64), (0, .nameAndType 65 51), (0, u "modCount"), (3, .methodref 10 70), (0, .nameAndType 71 72), (0, u "grow"), (0, u "(I)[Ljava/lang/Object;"), (6, .methodref 80 81), (0, .class_ 82), (0, .nameAndType 83 84), (0, u "java/lang/Math"), (0, u "max"), (0, u "(II)I"), (11, u "(Ljava/lang/Object;)Z"), (21, .methodref 119 120), (0, .class_ 121), (0, .nameAndType 122 84), (0, u "java/util/Objects"), (0, u "checkIndex"), (0, .methodref 10 124), (0, .nameAndType 13 125), (0, u "(I)Ljava/lang/Object;"), (3, .methodref 10 130), (0, .nameAndType 71 47), (0, .methodref 10 132), (0, .nameAndType 133 134), (0, u "add"), (0, u "(Ljava/lang/Object;[Ljava/lang/Object;I)V"), (13, .class_ 149), (0, u "java/util/List"), (36, u "()I"), (75, .class_ 263), (0, u "java/util/ArrayList$ListItr"), (3, .class_ 268), (0, u "java/util/ArrayList$Itr"), (7, .class_ 277), (0, u "java/util/ArrayList$SubList"), (12, .class_ 291), (0, u "java/util/ArrayList$ArrayListSpliterator"), (37, .class_ 330), (0, u "java/util/RandomAccess"), (0, .class_ 332), (0, u "java/lang/Cloneable"), (0, .class_ 334), (0, u "java/io/Serializable"), (0, u "serialVersionUID"), (0, u "J"), (3, u "DEFAULT_CAPACITY"), (40, u "get"), (118, .class_ 501), (0, u "java/util/ArrayList$SubList$2"), (0, .class_ 503), (0, u "java/util/ArrayList$SubList$1")] 5

def k19c0 : Code := { maxStack := 2, maxLocals := 1, code := jdk_38_method_2_code, exceptionTable := #[], attributes := #[] }
def k19m0 : Method := { name := "<init>", desc := "()V", sig := { parameters := [], returnType := none }, accessFlags := 1, code := some k19c0 }
def k19c1 : Code := { maxStack := 4, maxLocals := 4, code := jdk_38_method_6_code, exceptionTable := #[], attributes := #[] }
def k19m1 : Method := { name := "grow", desc := "(I)[Ljava/lang/Object;", sig := { parameters := [.int], returnType := some (.array (.object "java/lang/Object")) }, accessFlags := 2, code := some k19c1 }
def k19c2 : Code := { maxStack := 3, maxLocals := 1, code := jdk_38_method_7_code, exceptionTable := #[], attributes := #[] }
def k19m2 : Method := { name := "grow", desc := "()[Ljava/lang/Object;", sig := { parameters := [], returnType := some (.array (.object "java/lang/Object")) }, accessFlags := 2, code := some k19c2 }
def k19c3 : Code := { maxStack := 1, maxLocals := 1, code := jdk_38_method_8_code, exceptionTable := #[], attributes := #[] }
def k19m3 : Method := { name := "size", desc := "()I", sig := { parameters := [], returnType := some .int }, accessFlags := 1, code := some k19c3 }
def k19c4 : Code := { maxStack := 2, maxLocals := 2, code := jdk_38_method_18_code, exceptionTable := #[], attributes := #[] }
def k19m4 : Method := { name := "elementData", desc := "(I)Ljava/lang/Object;", sig := { parameters := [.int], returnType := some (.object "java/lang/Object") }, accessFlags := 0, code := some k19c4 }
def k19c5 : Code := { maxStack := 2, maxLocals := 2, code := jdk_38_method_20_code, exceptionTable := #[], attributes := #[] }
def k19m5 : Method := { name := "get", desc := "(I)Ljava/lang/Object;", sig := { parameters := [.int], returnType := some (.object "java/lang/Object") }, accessFlags := 1, code := some k19c5 }
def k19c6 : Code := { maxStack := 3, maxLocals := 4, code := jdk_38_method_24_code, exceptionTable := #[], attributes := #[] }
def k19m6 : Method := { name := "add", desc := "(Ljava/lang/Object;[Ljava/lang/Object;I)V", sig := { parameters := [(.object "java/lang/Object"), (.array (.object "java/lang/Object")), .int], returnType := none }, accessFlags := 2, code := some k19c6 }
def k19c7 : Code := { maxStack := 4, maxLocals := 2, code := jdk_38_method_25_code, exceptionTable := #[], attributes := #[] }
def k19m7 : Method := { name := "add", desc := "(Ljava/lang/Object;)Z", sig := { parameters := [(.object "java/lang/Object")], returnType := some .boolean }, accessFlags := 1, code := some k19c7 }
/-- java/util/ArrayList -/
def k19 : Class := { plain "java/util/ArrayList" (some 16) with
  accessFlags := 33
  interfaces := #[15, 17, 18, 2]
  cf := some (fileOf pool19 10 #[.nestMembers #[290, 276, 500, 502, 262, 267]] #[{ accessFlags := 1, nameIndex := 5, descriptorIndex := 6, attributes := #[] }, { accessFlags := 2, nameIndex := 71, descriptorIndex := 72, attributes := #[] }, { accessFlags := 2, nameIndex := 71, descriptorIndex := 47, attributes := #[] }, { accessFlags := 1, nameIndex := 50, descriptorIndex := 186, attributes := #[] }, { accessFlags := 0, nameIndex := 13, descriptorIndex := 125, attributes := #[] }, { accessFlags := 1, nameIndex := 381, descriptorIndex := 125, attributes := #[] }, { accessFlags := 2, nameIndex := 133, descriptorIndex := 134, attributes := #[] }, { accessFlags := 1, nameIndex := 133, descriptorIndex := 96, attributes := #[] }] 33 2 #[148, 329, 331, 333] #[{ accessFlags := 26, nameIndex := 335, descriptorIndex := 336, attributes := #[] }, { accessFlags := 26, nameIndex := 340, descriptorIndex := 51, attributes := #[] }, { accessFlags := 26, nameIndex := 17, descriptorIndex := 14, attributes := #[] }, { accessFlags := 26, nameIndex := 41, descriptorIndex := 14, attributes := #[] }, { accessFlags := 128, nameIndex := 13, descriptorIndex := 14, attributes := #[] }, { accessFlags := 2, nameIndex := 50, descriptorIndex := 51, attributes := #[] }])
  fields := #[{ name := "serialVersionUID", type := .long, accessFlags := 26, slot := 0, constantValue := 0 }, { name := "DEFAULT_CAPACITY", type := .int, accessFlags := 26, slot := 1, constantValue := 0 }, { name := "EMPTY_ELEMENTDATA", type := (.array (.object "java/lang/Object")), accessFlags := 26, slot := 2, constantValue := 0 }, { name := "DEFAULTCAPACITY_EMPTY_ELEMENTDATA", type := (.array (.object "java/lang/Object")), accessFlags := 26, slot := 3, constantValue := 0 }, { name := "elementData", type := (.array (.object "java/lang/Object")), accessFlags := 128, slot := 1, constantValue := 0 }, { name := "size", type := .int, accessFlags := 2, slot := 2, constantValue := 0 }]
  methods := #[k19m0, k19m1, k19m2, k19m3, k19m4, k19m5, k19m6, k19m7]
  instanceTypes := #[.int, (.array (.object "java/lang/Object")), .int]
  staticTypes := #[.long, .int, (.array (.object "java/lang/Object")), (.array (.object "java/lang/Object"))]
  resolved := Array.replicate 509 none
  statics := some 1 }

def pool20 : Array CpInfo := pool [(1, .class_ 2), (0, u "java/lang/String"), (1, .class_ 6), (1, u "java/lang/Object"), (0, u "<init>"), (0, u "()V"), (0, .methodref 1 10), (0, .nameAndType 11 12), (0, u "checkIndex"), (0, u "(II)V"), (1, .class_ 16), (1, u "java/lang/StringLatin1"), (21, .methodref 39 40), (0, .class_ 41), (0, .nameAndType 42 43), (0, u "java/lang/Math"), (0, u "min"), (0, u "(II)I"), (9, u "([BI)C"), (34, .methodref 14 89), (0, .nameAndType 90 91), (0, u "canEncode"), (0, u "(I)Z"), (0, .methodref 39 93), (0, .nameAndType 94 43), (0, u "max"), (0, .methodref 14 96), (0, .nameAndType 97 98), (0, u "indexOfChar"), (0, u "([BIII)I"), (2, u "indexOf"), (19, u "$assertionsDisabled"), (0, u "Z"), (98, .class_ 223), (1, u "java/lang/StringLatin1$LinesSpliterator"), (28, u "charAt"), (137, .class_ 391), (0, u "java/lang/StringLatin1$CharsSpliterator")] 3

def k20m0 : Method := { name := "<init>", desc := "()V", sig := { parameters := [], returnType := none }, accessFlags := 0, code := none }
def k20c1 : Code := { maxStack := 2, maxLocals := 2, code := jdk_43_method_2_code, exceptionTable := #[], attributes := #[] }
def k20m1 : Method := { name := "charAt", desc := "([BI)C", sig := { parameters := [(.array .byte), .int], returnType := some .char }, accessFlags := 9, code := some k20c1 }
def k20c2 : Code := { maxStack := 2, maxLocals := 1, code := jdk_43_method_4_code, exceptionTable := #[], attributes := #[] }
def k20m2 : Method := { name := "canEncode", desc := "(I)Z", sig := { parameters := [.int], returnType := some .boolean }, accessFlags := 9, code := some k20c2 }
def k20c3 : Code := { maxStack := 4, maxLocals := 4, code := jdk_43_method_22_code, exceptionTable := #[], attributes := #[] }
def k20m3 : Method := { name := "indexOf", desc := "([BIII)I", sig := { parameters := [(.array .byte), .int, .int, .int], returnType := some .int }, accessFlags := 9, code := some k20c3 }
def k20c4 : Code := { maxStack := 2, maxLocals := 6, code := jdk_43_method_23_code, exceptionTable := #[], attributes := #[] }
def k20m4 : Method := { name := "indexOfChar", desc := "([BIII)I", sig := { parameters := [(.array .byte), .int, .int, .int], returnType := some .int }, accessFlags := 10, code := some k20c4 }
/-- java/lang/StringLatin1 -/
def k20 : Class := { plain "java/lang/StringLatin1" (some 0) with
  accessFlags := 48
  interfaces := #[]
  cf := some (fileOf pool20 14 #[.nestMembers #[390, 221]] #[{ accessFlags := 0, nameIndex := 7, descriptorIndex := 8, attributes := #[] }, { accessFlags := 9, nameIndex := 252, descriptorIndex := 53, attributes := #[] }, { accessFlags := 9, nameIndex := 90, descriptorIndex := 91, attributes := #[] }, { accessFlags := 9, nameIndex := 101, descriptorIndex := 98, attributes := #[] }, { accessFlags := 10, nameIndex := 97, descriptorIndex := 98, attributes := #[] }] 48 4 #[] #[{ accessFlags := 4120, nameIndex := 121, descriptorIndex := 122, attributes := #[] }])
  fields := #[{ name := "$assertionsDisabled", type := .boolean, accessFlags := 4120, slot := 0, constantValue := 0 }]
  methods := #[k20m0, k20m1, k20m2, k20m3, k20m4]
  instanceTypes := #[]
  staticTypes := #[.boolean]
  resolved := Array.replicate 395 none
  statics := none }

def pool21 : Array CpInfo := pool [(1, .class_ 2), (0, u "java/lang/Math"), (1, .class_ 6), (1, u "java/lang/Object"), (0, u "<init>"), (0, u "()V"), (89, .class_ 100), (1, u "java/lang/Math$RandomNumberGeneratorHolder"), (71, u "negativeZeroFloatBits"), (0, u "J"), (2, u "negativeZeroDoubleBits"), (21, u "max"), (2, u "min"), (43, u "$assertionsDisabled"), (0, u "Z"), (88, u "(II)I"), (2, u "twoToTheDoubleScaleDown"), (0, u "D"), (4, u "twoToTheDoubleScaleUp"), (9, u "E"), (3, u "PI"), (2, u "TAU"), (2, u "DEGREES_TO_RADIANS"), (0, u "RADIANS_TO_DEGREES")] 94

def k21m0 : Method := { name := "<init>", desc := "()V", sig := { parameters := [], returnType := none }, accessFlags := 2, code := none }
def k21c1 : Code := { maxStack := 2, maxLocals := 2, code := jdk_29_method_65_code, exceptionTable := #[], attributes := #[] }
def k21m1 : Method := { name := "max", desc := "(II)I", sig := { parameters := [.int, .int], returnType := some .int }, accessFlags := 9, code := some k21c1 }
def k21c2 : Code := { maxStack := 2, maxLocals := 2, code := jdk_29_method_69_code, exceptionTable := #[], attributes := #[] }
def k21m2 : Method := { name := "min", desc := "(II)I", sig := { parameters := [.int, .int], returnType := some .int }, accessFlags := 9, code := some k21c2 }
/-- java/lang/Math -/
def k21 : Class := { plain "java/lang/Math" (some 0) with
  accessFlags := 49
  interfaces := #[]
  cf := some (fileOf pool21 1 #[.nestMembers #[98]] #[{ accessFlags := 2, nameIndex := 7, descriptorIndex := 8, attributes := #[] }, { accessFlags := 9, nameIndex := 198, descriptorIndex := 335, attributes := #[] }, { accessFlags := 9, nameIndex := 201, descriptorIndex := 335, attributes := #[] }] 49 4 #[] #[{ accessFlags := 25, nameIndex := 354, descriptorIndex := 339, attributes := #[] }, { accessFlags := 25, nameIndex := 358, descriptorIndex := 339, attributes := #[] }, { accessFlags := 25, nameIndex := 361, descriptorIndex := 339, attributes := #[] }, { accessFlags := 26, nameIndex := 364, descriptorIndex := 339, attributes := #[] }, { accessFlags := 26, nameIndex := 365, descriptorIndex := 339, attributes := #[] }, { accessFlags := 26, nameIndex := 172, descriptorIndex := 173, attributes := #[] }, { accessFlags := 26, nameIndex := 176, descriptorIndex := 173, attributes := #[] }, { accessFlags := 8, nameIndex := 344, descriptorIndex := 339, attributes := #[] }, { accessFlags := 8, nameIndex := 338, descriptorIndex := 339, attributes := #[] }, { accessFlags := 4120, nameIndex := 245, descriptorIndex := 246, attributes := #[] }])
  fields := #[{ name := "E", type := .double, accessFlags := 25, slot := 0, constantValue := 0 }, { name := "PI", type := .double, accessFlags := 25, slot := 1, constantValue := 0 }, { name := "TAU", type := .double, accessFlags := 25, slot := 2, constantValue := 0 }, { name := "DEGREES_TO_RADIANS", type := .double, accessFlags := 26, slot := 3, constantValue := 0 }, { name := "RADIANS_TO_DEGREES", type := .double, accessFlags := 26, slot := 4, constantValue := 0 }, { name := "negativeZeroFloatBits", type := .long, accessFlags := 26, slot := 5, constantValue := 0 }, { name := "negativeZeroDoubleBits", type := .long, accessFlags := 26, slot := 6, constantValue := 0 }, { name := "twoToTheDoubleScaleUp", type := .double, accessFlags := 8, slot := 7, constantValue := 0 }, { name := "twoToTheDoubleScaleDown", type := .double, accessFlags := 8, slot := 8, constantValue := 0 }, { name := "$assertionsDisabled", type := .boolean, accessFlags := 4120, slot := 9, constantValue := 0 }]
  methods := #[k21m0, k21m1, k21m2]
  instanceTypes := #[]
  staticTypes := #[.double, .double, .double, .double, .double, .long, .long, .double, .double, .boolean]
  resolved := Array.replicate 460 none
  statics := none }

def pool22 : Array CpInfo := pool [(2, .class_ 4), (1, u "java/lang/Object"), (0, u "<init>"), (0, u "()V"), (35, .class_ 44), (1, u "java/util/Objects"), (60, .methodref 106 107), (0, .class_ 108), (0, .nameAndType 109 110), (0, u "jdk/internal/util/Preconditions"), (0, u "checkIndex"), (0, u "(IILjava/util/function/BiFunction;)I"), (60, u "(II)I")] 12

def k22m0 : Method := { name := "<init>", desc := "()V", sig := { parameters := [], returnType := none }, accessFlags := 2, code := none }
def k22c1 : Code := { maxStack := 3, maxLocals := 2, code := jdk_31_method_17_code, exceptionTable := #[], attributes := #[] }
def k22m1 : Method := { name := "checkIndex", desc := "(II)I", sig := { parameters := [.int, .int], returnType := some .int }, accessFlags := 9, code := some k22c1 }
/-- java/util/Objects -/
def k22 : Class := { plain "java/util/Objects" (some 0) with
  accessFlags := 49
  interfaces := #[]
  cf := some (fileOf pool22 42 #[] #[{ accessFlags := 2, nameIndex := 5, descriptorIndex := 6, attributes := #[] }, { accessFlags := 9, nameIndex := 109, descriptorIndex := 171, attributes := #[] }] 49 2 #[] #[])
  fields := #[]
  methods := #[k22m0, k22m1]
  instanceTypes := #[]
  staticTypes := #[]
  resolved := Array.replicate 184 none
  statics := none }

def pool23 : Array CpInfo := pool [(2, .class_ 4), (1, u "java/lang/Object"), (0, u "<init>"), (0, u "()V"), (17, .class_ 26), (1, u "jdk/internal/util/Preconditions"), (6, u "checkIndex"), (21, .class_ 56), (0, u "jdk/internal/util/Preconditions$4"), (57, .class_ 115), (0, u "jdk/internal/util/Preconditions$1"), (7, u "SIOOBE_FORMATTER"), (0, u "Ljava/util/function/BiFunction;"), (0, .class_ 126), (0, u "jdk/internal/util/Preconditions$2"), (3, u "AIOOBE_FORMATTER"), (0, .class_ 132), (0, u "jdk/internal/util/Preconditions$3"), (3, u "IOOBE_FORMATTER"), (41, u "(IILjava/util/function/BiFunction;)I")] 15

def k23m0 : Method := { name := "<init>", desc := "()V", sig := { parameters := [], returnType := none }, accessFlags := 1, code := none }
def k23c1 : Code := { maxStack := 3, maxLocals := 3, code := jdk_41_method_11_code, exceptionTable := #[], attributes := #[] }
def k23m1 : Method := { name := "checkIndex", desc := "(IILjava/util/function/BiFunction;)I", sig := { parameters := [.int, .int, (.object "java/util/function/BiFunction")], returnType := some .int }, accessFlags := 9, code := some k23c1 }
/-- jdk/internal/util/Preconditions -/
def k23 : Class := { plain "jdk/internal/util/Preconditions" (some 0) with
  accessFlags := 33
  interfaces := #[]
  cf := some (fileOf pool23 24 #[.nestMembers #[55, 131, 125, 114]] #[{ accessFlags := 1, nameIndex := 5, descriptorIndex := 6, attributes := #[] }, { accessFlags := 9, nameIndex := 33, descriptorIndex := 178, attributes := #[] }] 33 2 #[] #[{ accessFlags := 25, nameIndex := 123, descriptorIndex := 124, attributes := #[] }, { accessFlags := 25, nameIndex := 130, descriptorIndex := 124, attributes := #[] }, { accessFlags := 25, nameIndex := 136, descriptorIndex := 124, attributes := #[] }])
  fields := #[{ name := "SIOOBE_FORMATTER", type := (.object "java/util/function/BiFunction"), accessFlags := 25, slot := 0, constantValue := 0 }, { name := "AIOOBE_FORMATTER", type := (.object "java/util/function/BiFunction"), accessFlags := 25, slot := 1, constantValue := 0 }, { name := "IOOBE_FORMATTER", type := (.object "java/util/function/BiFunction"), accessFlags := 25, slot := 2, constantValue := 0 }]
  methods := #[k23m0, k23m1]
  instanceTypes := #[]
  staticTypes := #[(.object "java/util/function/BiFunction"), (.object "java/util/function/BiFunction"), (.object "java/util/function/BiFunction")]
  resolved := Array.replicate 194 none
  statics := some 2 }

def pool24 : Array CpInfo := pool [(9, u "<init>"), (6, .class_ 18), (1, u "java/lang/Object"), (0, u "()V"), (1, .class_ 23), (1, u "jdk/internal/util/ArraysSupport"), (0, u "LOG2_ARRAY_LONG_INDEX_SCALE"), (0, u "I"), (2, u "U"), (0, u "Ljdk/internal/misc/Unsafe;"), (8, u "BIG_ENDIAN"), (0, u "Z"), (8, u "LOG2_BYTE_BIT_SIZE"), (4, u "LOG2_ARRAY_INT_INDEX_SCALE"), (54, u "JLA"), (0, u "Ljdk/internal/access/JavaLangAccess;"), (11, u "LOG2_ARRAY_BOOLEAN_INDEX_SCALE"), (9, u "LOG2_ARRAY_BYTE_INDEX_SCALE"), (5, u "LOG2_ARRAY_CHAR_INDEX_SCALE"), (5, u "LOG2_ARRAY_SHORT_INDEX_SCALE"), (18, u "LOG2_ARRAY_FLOAT_INDEX_SCALE"), (24, u "LOG2_ARRAY_DOUBLE_INDEX_SCALE"), (89, u "T_BOOLEAN"), (2, u "T_CHAR"), (1, u "T_FLOAT"), (1, u "T_DOUBLE"), (1, u "T_BYTE"), (1, u "T_SHORT"), (1, u "T_INT"), (1, u "T_LONG"), (1, u "SOFT_MAX_ARRAY_LENGTH")] 83

def k24m0 : Method := { name := "<init>", desc := "()V", sig := { parameters := [], returnType := none }, accessFlags := 2, code := none }
/-- jdk/internal/util/ArraysSupport -/
def k24 : Class := { plain "jdk/internal/util/ArraysSupport" (some 0) with
  accessFlags := 33
  interfaces := #[]
  cf := some (fileOf pool24 21 #[] #[{ accessFlags := 2, nameIndex := 9, descriptorIndex := 19, attributes := #[] }] 33 16 #[] #[{ accessFlags := 24, nameIndex := 28, descriptorIndex := 29, attributes := #[] }, { accessFlags := 26, nameIndex := 38, descriptorIndex := 39, attributes := #[] }, { accessFlags := 25, nameIndex := 121, descriptorIndex := 25, attributes := #[] }, { accessFlags := 25, nameIndex := 131, descriptorIndex := 25, attributes := #[] }, { accessFlags := 25, nameIndex := 137, descriptorIndex := 25, attributes := #[] }, { accessFlags := 25, nameIndex := 143, descriptorIndex := 25, attributes := #[] }, { accessFlags := 25, nameIndex := 53, descriptorIndex := 25, attributes := #[] }, { accessFlags := 25, nameIndex := 24, descriptorIndex := 25, attributes := #[] }, { accessFlags := 25, nameIndex := 162, descriptorIndex := 25, attributes := #[] }, { accessFlags := 25, nameIndex := 187, descriptorIndex := 25, attributes := #[] }, { accessFlags := 26, nameIndex := 48, descriptorIndex := 25, attributes := #[] }, { accessFlags := 25, nameIndex := 277, descriptorIndex := 25, attributes := #[] }, { accessFlags := 25, nameIndex := 280, descriptorIndex := 25, attributes := #[] }, { accessFlags := 25, nameIndex := 282, descriptorIndex := 25, attributes := #[] }, { accessFlags := 25, nameIndex := 284, descriptorIndex := 25, attributes := #[] }, { accessFlags := 25, nameIndex := 286, descriptorIndex := 25, attributes := #[] }, { accessFlags := 25, nameIndex := 288, descriptorIndex := 25, attributes := #[] }, { accessFlags := 25, nameIndex := 290, descriptorIndex := 25, attributes := #[] }, { accessFlags := 25, nameIndex := 292, descriptorIndex := 25, attributes := #[] }, { accessFlags := 26, nameIndex := 108, descriptorIndex := 109, attributes := #[] }, { accessFlags := 25, nameIndex := 294, descriptorIndex := 25, attributes := #[] }])
  fields := #[{ name := "U", type := (.object "jdk/internal/misc/Unsafe"), accessFlags := 24, slot := 0, constantValue := 0 }, { name := "BIG_ENDIAN", type := .boolean, accessFlags := 26, slot := 1, constantValue := 0 }, { name := "LOG2_ARRAY_BOOLEAN_INDEX_SCALE", type := .int, accessFlags := 25, slot := 2, constantValue := 0 }, { name := "LOG2_ARRAY_BYTE_INDEX_SCALE", type := .int, accessFlags := 25, slot := 3, constantValue := 0 }, { name := "LOG2_ARRAY_CHAR_INDEX_SCALE", type := .int, accessFlags := 25, slot := 4, constantValue := 0 }, { name := "LOG2_ARRAY_SHORT_INDEX_SCALE", type := .int, accessFlags := 25, slot := 5, constantValue := 0 }, { name := "LOG2_ARRAY_INT_INDEX_SCALE", type := .int, accessFlags := 25, slot := 6, constantValue := 0 }, { name := "LOG2_ARRAY_LONG_INDEX_SCALE", type := .int, accessFlags := 25, slot := 7, constantValue := 0 }, { name := "LOG2_ARRAY_FLOAT_INDEX_SCALE", type := .int, accessFlags := 25, slot := 8, constantValue := 0 }, { name := "LOG2_ARRAY_DOUBLE_INDEX_SCALE", type := .int, accessFlags := 25, slot := 9, constantValue := 0 }, { name := "LOG2_BYTE_BIT_SIZE", type := .int, accessFlags := 26, slot := 10, constantValue := 0 }, { name := "T_BOOLEAN", type := .int, accessFlags := 25, slot := 11, constantValue := 0 }, { name := "T_CHAR", type := .int, accessFlags := 25, slot := 12, constantValue := 0 }, { name := "T_FLOAT", type := .int, accessFlags := 25, slot := 13, constantValue := 0 }, { name := "T_DOUBLE", type := .int, accessFlags := 25, slot := 14, constantValue := 0 }, { name := "T_BYTE", type := .int, accessFlags := 25, slot := 15, constantValue := 0 }, { name := "T_SHORT", type := .int, accessFlags := 25, slot := 16, constantValue := 0 }, { name := "T_INT", type := .int, accessFlags := 25, slot := 17, constantValue := 0 }, { name := "T_LONG", type := .int, accessFlags := 25, slot := 18, constantValue := 0 }, { name := "JLA", type := (.object "jdk/internal/access/JavaLangAccess"), accessFlags := 26, slot := 19, constantValue := 0 }, { name := "SOFT_MAX_ARRAY_LENGTH", type := .int, accessFlags := 25, slot := 20, constantValue := 0 }]
  methods := #[k24m0]
  instanceTypes := #[]
  staticTypes := #[(.object "jdk/internal/misc/Unsafe"), .boolean, .int, .int, .int, .int, .int, .int, .int, .int, .int, .int, .int, .int, .int, .int, .int, .int, .int, (.object "jdk/internal/access/JavaLangAccess"), .int]
  resolved := Array.replicate 378 none
  statics := none }

/-- the primitive byte -/
def k25 : Class := { plain "byte" none with kind := .primitive 'B', accessFlags := 0x411 }
/-- [B -/
def k26 : Class := { plain "[B" (some 0) with kind := .array 25 .byte, interfaces := #[18, 2], accessFlags := 1041 }

/-- the primitive char -/
def k27 : Class := { plain "char" none with kind := .primitive 'C', accessFlags := 0x411 }
/-- [C -/
def k28 : Class := { plain "[C" (some 0) with kind := .array 27 .char, interfaces := #[18, 2], accessFlags := 1041 }

/-- the primitive int -/
def k29 : Class := { plain "int" none with kind := .primitive 'I', accessFlags := 0x411 }
/-- [I -/
def k30 : Class := { plain "[I" (some 0) with kind := .array 29 .int, interfaces := #[18, 2], accessFlags := 1041 }

/-- [Ljava/lang/Object; -/
def k31 : Class := { plain "[Ljava/lang/Object;" (some 0) with kind := .array 0 (.object "java/lang/Object"), interfaces := #[18, 2], accessFlags := 1041 }

def heap : Heap := #[{ cls := 7, slots := #[.long 0, .int 1, .null, .int 0, .null, .int 0, .int 0], vm := .statics 7 },
  { cls := 19, slots := #[.long 0, .int 0, .ref 3, .ref 4], vm := .statics 19 },
  { cls := 23, slots := #[.null, .null, .null], vm := .statics 23 },
  { cls := 31, slots := #[], vm := .none },
  { cls := 31, slots := #[], vm := .none }]
def classes : Array Class := #[k0, k1, k2, k3, k4, k5, k6, k7, k8, k9, k10, k11, k12, k13, k14, k15, k16, k17, k18, k19, k20, k21, k22, k23, k24, k25, k26, k27, k28, k29, k30, k31]
def interned : List (Array UInt16 × Addr) := []
def slotsUsed : Nat := 14
def theMethod : MethodId := ⟨1, 3⟩
def args0 : Array Value := #[.int 5, .int 5, .int 5, .int 5, .int 5, .int 5]
def aboutOver (below : List Frame) : State where
  vm := { classes := classes, interned := interned.toArray }
  heap := heap
  slotsUsed := slotsUsed
  threads := #[{ frames := .invoking theMethod args0 :: below }]
def below0 : List Frame := [.native { method := ⟨0, 0⟩, args := #[] }]
def about1 : State := aboutOver below0
def p0 : Program := .bare "" "" ""
def e0 : Env := launch0.env 0 0 0
theorem w_frames : about1.frames = Frame.invoking theMethod args0 :: below0 := rfl
set_option maxRecDepth 65536 in
theorem w_args : argsFit about1.vm theMethod args0 = true := by decide +kernel
set_option maxRecDepth 65536 in
theorem w_heap : heapFits about1 = true := by decide +kernel
set_option maxRecDepth 65536 in
theorem w_runnable : about1.curStatus? = some .runnable := by decide +kernel
set_option maxRecDepth 65536 in
theorem w_alone : about1.alone = true := by decide +kernel
set_option maxRecDepth 65536 in
theorem w_named : about1.methodNamed? x = some theMethod := by decide +kernel
set_option maxRecDepth 65536 in
theorem w_hears : about1.hears theMethod below0 = true := by decide +kernel
set_option maxRecDepth 65536 in
theorem w_ripe : about1.ripe theMethod args0 below0 = true := by decide +kernel
theorem w_running : about1.status = .running := rfl
set_option maxRecDepth 65536 in
theorem w_room : about1.hasRoom e0.platform room_1 = true :=
  launch0.hasRoom_least _ room_1 (by decide +kernel) (by decide +kernel) (by decide +kernel) (by decide +kernel) (by decide +kernel) (by decide +kernel)
theorem allAtoms_all (ts : List Jvm.Cond) (a : Array Jvm.Value) (st : Jvm.State) : (allAtoms ts).before a st = ts.all (fun c => c.before a st) := by
  induction ts with
  | nil => rfl
  | cons c t ih =>
    show (Jvm.Cond.and c (allAtoms t)).before a st = _
    rw [Jvm.Cond.before_and, ih, List.all_cons]
def words1 : List Jvm.Cond := Jvm.Cond.code x code maxLocals ret :: tables_1
/-- a 'code' word, met by the world's own term for the bytes: nothing is compared byte by byte -/
theorem code_word {y : MethodName} {bytes : ByteArray} {mx : Nat} {rt : Option FieldType} {a : Array Value} {s : State} {m : MethodId} {meth : Method} {c : Code} (h1 : s.methodNamed? y = some m) (h2 : s.vm.method? m = some meth) (h3 : meth.code = some c) (h4 : c.code = bytes)
    (h5 : (c.maxLocals == mx && c.exceptionTable.isEmpty && decide (c.maxStack ≤ mostOperands) && decide (meth.sig.returnType = rt) && !meth.locks && decide (parseMethodDescriptor y.desc = some meth.sig)) = true) : (Jvm.Cond.code y bytes mx rt).before a s = true := by
  simp only [Bool.and_eq_true, beq_iff_eq, Bool.not_eq_true', decide_eq_true_eq] at h5
  obtain ⟨⟨⟨⟨⟨g1, g2⟩, g3⟩, g4⟩, g5⟩, g6⟩ := h5
  simp [Cond.before, Cond.holds, Cond.value, h1, h2, h3, h4, g1, g2, g3, g4, g5, g6]
def isCode : Jvm.Cond → Bool
  | .code _ _ _ _ => true
  | _ => false
theorem all_split {L : List Jvm.Cond} {P : Jvm.Cond → Bool} (h1 : L.all (fun c => isCode c || P c) = true) (h2 : ∀ c ∈ L.filter isCode, P c = true) : L.all P = true := by
  refine List.all_eq_true.mpr fun c hc => ?_
  have h := List.all_eq_true.mp h1 c hc
  rcases Bool.eq_false_or_eq_true (isCode c) with hi | hi
  · exact h2 c (List.mem_filter.mpr ⟨hc, hi⟩)
  · simpa [hi] using h
set_option maxRecDepth 65536 in
theorem w_c0 : (Jvm.Cond.code x code maxLocals ret).before args0 about1 = true := code_word (m := ⟨1, 3⟩) (meth := k1m3) (c := k1c3) (by decide +kernel) rfl rfl rfl (by decide +kernel)
set_option maxRecDepth 65536 in
theorem w_c1 : (Jvm.Cond.code ({ cls := "com/example/stairwell/stairwell/sql/UrlParameterHasValuePinLaw", name := "pick", desc := "(I)C" } : Jvm.MethodName) method_2_code (2 : Nat) (Option.some Jvm.ClassFile.FieldType.char)).before args0 about1 = true := code_word (m := ⟨1, 1⟩) (meth := k1m1) (c := k1c1) (by decide +kernel) rfl rfl rfl (by decide +kernel)
set_option maxRecDepth 65536 in
theorem w_c2 : (Jvm.Cond.code ({ cls := "java/lang/String", name := "<init>", desc := "([C)V" } : Jvm.MethodName) jdk_42_method_3_code (2 : Nat) (Option.none : Option Jvm.ClassFile.FieldType)).before args0 about1 = true := code_word (m := ⟨7, 1⟩) (meth := k7m1) (c := k7c1) (by decide +kernel) rfl rfl rfl (by decide +kernel)
set_option maxRecDepth 65536 in
theorem w_c3 : (Jvm.Cond.code ({ cls := "java/lang/String", name := "<init>", desc := "([CIILjava/lang/Void;)V" } : Jvm.MethodName) jdk_42_method_149_code (6 : Nat) (Option.none : Option Jvm.ClassFile.FieldType)).before args0 about1 = true := code_word (m := ⟨7, 6⟩) (meth := k7m6) (c := k7c6) (by decide +kernel) rfl rfl rfl (by decide +kernel)
set_option maxRecDepth 65536 in
theorem w_c4 : (Jvm.Cond.code ({ cls := "java/lang/Object", name := "<init>", desc := "()V" } : Jvm.MethodName) object_method_1_code (1 : Nat) (Option.none : Option Jvm.ClassFile.FieldType)).before args0 about1 = true := code_word (m := ⟨0, 0⟩) (meth := k0m0) (c := k0c0) (by decide +kernel) rfl rfl rfl (by decide +kernel)
set_option maxRecDepth 65536 in
theorem w_c5 : (Jvm.Cond.code ({ cls := "java/lang/StringUTF16", name := "compress", desc := "([CII)[B" } : Jvm.MethodName) jdk_52_method_16_code (6 : Nat) (Option.some (Jvm.ClassFile.FieldType.array Jvm.ClassFile.FieldType.byte))).before args0 about1 = true := code_word (m := ⟨8, 2⟩) (meth := k8m2) (c := k8c2) (by decide +kernel) rfl rfl rfl (by decide +kernel)
set_option maxRecDepth 65536 in
theorem w_c6 : (Jvm.Cond.code ({ cls := "java/lang/StringUTF16", name := "compress", desc := "([CI[BII)I" } : Jvm.MethodName) jdk_52_method_21_code (7 : Nat) (Option.some Jvm.ClassFile.FieldType.int)).before args0 about1 = true := code_word (m := ⟨8, 3⟩) (meth := k8m3) (c := k8c3) (by decide +kernel) rfl rfl rfl (by decide +kernel)
set_option maxRecDepth 65536 in
theorem w_c7 : (Jvm.Cond.code ({ cls := "java/lang/StringUTF16", name := "coderFromArrayLen", desc := "([BI)B" } : Jvm.MethodName) jdk_52_method_15_code (2 : Nat) (Option.some Jvm.ClassFile.FieldType.byte)).before args0 about1 = true := code_word (m := ⟨8, 1⟩) (meth := k8m1) (c := k8c1) (by decide +kernel) rfl rfl rfl (by decide +kernel)
set_option maxRecDepth 65536 in
theorem w_c8 : (Jvm.Cond.code ({ cls := "com/example/stairwell/stairwell/sql/UrlParameter", name := "in", desc := "(Ljava/lang/String;)Ljava/util/List;" } : Jvm.MethodName) prog_78_method_2_code (6 : Nat) (Option.some (Jvm.ClassFile.FieldType.object "java/util/List"))).before args0 about1 = true := code_word (m := ⟨10, 1⟩) (meth := k10m1) (c := k10c1) (by decide +kernel) rfl rfl rfl (by decide +kernel)
set_option maxRecDepth 65536 in
theorem w_c9 : (Jvm.Cond.code ({ cls := "java/util/ArrayList", name := "<init>", desc := "()V" } : Jvm.MethodName) jdk_38_method_2_code (1 : Nat) (Option.none : Option Jvm.ClassFile.FieldType)).before args0 about1 = true := code_word (m := ⟨19, 0⟩) (meth := k19m0) (c := k19c0) (by decide +kernel) rfl rfl rfl (by decide +kernel)
set_option maxRecDepth 65536 in
theorem w_c10 : (Jvm.Cond.code ({ cls := "java/util/AbstractList", name := "<init>", desc := "()V" } : Jvm.MethodName) jdk_39_method_1_code (1 : Nat) (Option.none : Option Jvm.ClassFile.FieldType)).before args0 about1 = true := code_word (m := ⟨16, 0⟩) (meth := k16m0) (c := k16c0) (by decide +kernel) rfl rfl rfl (by decide +kernel)
set_option maxRecDepth 65536 in
theorem w_c11 : (Jvm.Cond.code ({ cls := "java/util/AbstractCollection", name := "<init>", desc := "()V" } : Jvm.MethodName) jdk_22_method_1_code (1 : Nat) (Option.none : Option Jvm.ClassFile.FieldType)).before args0 about1 = true := code_word (m := ⟨13, 0⟩) (meth := k13m0) (c := k13c0) (by decide +kernel) rfl rfl rfl (by decide +kernel)
set_option maxRecDepth 65536 in
theorem w_c12 : (Jvm.Cond.code ({ cls := "java/lang/String", name := "indexOf", desc := "(I)I" } : Jvm.MethodName) jdk_42_method_79_code (2 : Nat) (Option.some Jvm.ClassFile.FieldType.int)).before args0 about1 = true := code_word (m := ⟨7, 4⟩) (meth := k7m4) (c := k7c4) (by decide +kernel) rfl rfl rfl (by decide +kernel)
set_option maxRecDepth 65536 in
theorem w_c13 : (Jvm.Cond.code ({ cls := "java/lang/String", name := "indexOf", desc := "(II)I" } : Jvm.MethodName) jdk_42_method_80_code (3 : Nat) (Option.some Jvm.ClassFile.FieldType.int)).before args0 about1 = true := code_word (m := ⟨7, 5⟩) (meth := k7m5) (c := k7c5) (by decide +kernel) rfl rfl rfl (by decide +kernel)
set_option maxRecDepth 65536 in
theorem w_c14 : (Jvm.Cond.code ({ cls := "java/lang/String", name := "isLatin1", desc := "()Z" } : Jvm.MethodName) jdk_42_method_154_code (1 : Nat) (Option.some Jvm.ClassFile.FieldType.boolean)).before args0 about1 = true := code_word (m := ⟨7, 8⟩) (meth := k7m8) (c := k7c8) (by decide +kernel) rfl rfl rfl (by decide +kernel)
set_option maxRecDepth 65536 in
theorem w_c15 : (Jvm.Cond.code ({ cls := "java/lang/String", name := "length", desc := "()I" } : Jvm.MethodName) jdk_42_method_54_code (1 : Nat) (Option.some Jvm.ClassFile.FieldType.int)).before args0 about1 = true := code_word (m := ⟨7, 2⟩) (meth := k7m2) (c := k7c2) (by decide +kernel) rfl rfl rfl (by decide +kernel)
set_option maxRecDepth 65536 in
theorem w_c16 : (Jvm.Cond.code ({ cls := "java/lang/String", name := "coder", desc := "()B" } : Jvm.MethodName) jdk_42_method_152_code (1 : Nat) (Option.some Jvm.ClassFile.FieldType.byte)).before args0 about1 = true := code_word (m := ⟨7, 7⟩) (meth := k7m7) (c := k7c7) (by decide +kernel) rfl rfl rfl (by decide +kernel)
set_option maxRecDepth 65536 in
theorem w_c17 : (Jvm.Cond.code ({ cls := "java/lang/StringLatin1", name := "indexOf", desc := "([BIII)I" } : Jvm.MethodName) jdk_43_method_22_code (4 : Nat) (Option.some Jvm.ClassFile.FieldType.int)).before args0 about1 = true := code_word (m := ⟨20, 3⟩) (meth := k20m3) (c := k20c3) (by decide +kernel) rfl rfl rfl (by decide +kernel)
set_option maxRecDepth 65536 in
theorem w_c18 : (Jvm.Cond.code ({ cls := "java/lang/StringLatin1", name := "canEncode", desc := "(I)Z" } : Jvm.MethodName) jdk_43_method_4_code (1 : Nat) (Option.some Jvm.ClassFile.FieldType.boolean)).before args0 about1 = true := code_word (m := ⟨20, 2⟩) (meth := k20m2) (c := k20c2) (by decide +kernel) rfl rfl rfl (by decide +kernel)
set_option maxRecDepth 65536 in
theorem w_c19 : (Jvm.Cond.code ({ cls := "java/lang/Math", name := "max", desc := "(II)I" } : Jvm.MethodName) jdk_29_method_65_code (2 : Nat) (Option.some Jvm.ClassFile.FieldType.int)).before args0 about1 = true := code_word (m := ⟨21, 1⟩) (meth := k21m1) (c := k21c1) (by decide +kernel) rfl rfl rfl (by decide +kernel)
set_option maxRecDepth 65536 in
theorem w_c20 : (Jvm.Cond.code ({ cls := "java/lang/Math", name := "min", desc := "(II)I" } : Jvm.MethodName) jdk_29_method_69_code (2 : Nat) (Option.some Jvm.ClassFile.FieldType.int)).before args0 about1 = true := code_word (m := ⟨21, 2⟩) (meth := k21m2) (c := k21c2) (by decide +kernel) rfl rfl rfl (by decide +kernel)
set_option maxRecDepth 65536 in
theorem w_c21 : (Jvm.Cond.code ({ cls := "java/lang/StringLatin1", name := "indexOfChar", desc := "([BIII)I" } : Jvm.MethodName) jdk_43_method_23_code (6 : Nat) (Option.some Jvm.ClassFile.FieldType.int)).before args0 about1 = true := code_word (m := ⟨20, 4⟩) (meth := k20m4) (c := k20c4) (by decide +kernel) rfl rfl rfl (by decide +kernel)
set_option maxRecDepth 65536 in
theorem w_c22 : (Jvm.Cond.code ({ cls := "com/example/stairwell/stairwell/sql/UrlParameter", name := "<init>", desc := "(III)V" } : Jvm.MethodName) prog_78_method_1_code (4 : Nat) (Option.none : Option Jvm.ClassFile.FieldType)).before args0 about1 = true := code_word (m := ⟨10, 0⟩) (meth := k10m0) (c := k10c0) (by decide +kernel) rfl rfl rfl (by decide +kernel)
set_option maxRecDepth 65536 in
theorem w_c23 : (Jvm.Cond.code ({ cls := "java/lang/Record", name := "<init>", desc := "()V" } : Jvm.MethodName) jdk_30_method_1_code (1 : Nat) (Option.none : Option Jvm.ClassFile.FieldType)).before args0 about1 = true := code_word (m := ⟨9, 0⟩) (meth := k9m0) (c := k9c0) (by decide +kernel) rfl rfl rfl (by decide +kernel)
set_option maxRecDepth 65536 in
theorem w_c24 : (Jvm.Cond.code ({ cls := "java/util/ArrayList", name := "add", desc := "(Ljava/lang/Object;)Z" } : Jvm.MethodName) jdk_38_method_25_code (2 : Nat) (Option.some Jvm.ClassFile.FieldType.boolean)).before args0 about1 = true := code_word (m := ⟨19, 7⟩) (meth := k19m7) (c := k19c7) (by decide +kernel) rfl rfl rfl (by decide +kernel)
set_option maxRecDepth 65536 in
theorem w_c25 : (Jvm.Cond.code ({ cls := "java/util/ArrayList", name := "add", desc := "(Ljava/lang/Object;[Ljava/lang/Object;I)V" } : Jvm.MethodName) jdk_38_method_24_code (4 : Nat) (Option.none : Option Jvm.ClassFile.FieldType)).before args0 about1 = true := code_word (m := ⟨19, 6⟩) (meth := k19m6) (c := k19c6) (by decide +kernel) rfl rfl rfl (by decide +kernel)
set_option maxRecDepth 65536 in
theorem w_c26 : (Jvm.Cond.code ({ cls := "java/util/ArrayList", name := "grow", desc := "()[Ljava/lang/Object;" } : Jvm.MethodName) jdk_38_method_7_code (1 : Nat) (Option.some (Jvm.ClassFile.FieldType.array (Jvm.ClassFile.FieldType.object "java/lang/Object")))).before args0 about1 = true := code_word (m := ⟨19, 2⟩) (meth := k19m2) (c := k19c2) (by decide +kernel) rfl rfl rfl (by decide +kernel)
set_option maxRecDepth 65536 in
theorem w_c27 : (Jvm.Cond.code ({ cls := "java/util/ArrayList", name := "grow", desc := "(I)[Ljava/lang/Object;" } : Jvm.MethodName) jdk_38_method_6_code (4 : Nat) (Option.some (Jvm.ClassFile.FieldType.array (Jvm.ClassFile.FieldType.object "java/lang/Object")))).before args0 about1 = true := code_word (m := ⟨19, 1⟩) (meth := k19m1) (c := k19c1) (by decide +kernel) rfl rfl rfl (by decide +kernel)
set_option maxRecDepth 65536 in
theorem w_c28 : (Jvm.Cond.code ({ cls := "java/util/ArrayList", name := "size", desc := "()I" } : Jvm.MethodName) jdk_38_method_8_code (1 : Nat) (Option.some Jvm.ClassFile.FieldType.int)).before args0 about1 = true := code_word (m := ⟨19, 3⟩) (meth := k19m3) (c := k19c3) (by decide +kernel) rfl rfl rfl (by decide +kernel)
set_option maxRecDepth 65536 in
theorem w_c29 : (Jvm.Cond.code ({ cls := "java/util/ArrayList", name := "get", desc := "(I)Ljava/lang/Object;" } : Jvm.MethodName) jdk_38_method_20_code (2 : Nat) (Option.some (Jvm.ClassFile.FieldType.object "java/lang/Object"))).before args0 about1 = true := code_word (m := ⟨19, 5⟩) (meth := k19m5) (c := k19c5) (by decide +kernel) rfl rfl rfl (by decide +kernel)
set_option maxRecDepth 65536 in
theorem w_c30 : (Jvm.Cond.code ({ cls := "java/util/Objects", name := "checkIndex", desc := "(II)I" } : Jvm.MethodName) jdk_31_method_17_code (2 : Nat) (Option.some Jvm.ClassFile.FieldType.int)).before args0 about1 = true := code_word (m := ⟨22, 1⟩) (meth := k22m1) (c := k22c1) (by decide +kernel) rfl rfl rfl (by decide +kernel)
set_option maxRecDepth 65536 in
theorem w_c31 : (Jvm.Cond.code ({ cls := "jdk/internal/util/Preconditions", name := "checkIndex", desc := "(IILjava/util/function/BiFunction;)I" } : Jvm.MethodName) jdk_41_method_11_code (3 : Nat) (Option.some Jvm.ClassFile.FieldType.int)).before args0 about1 = true := code_word (m := ⟨23, 1⟩) (meth := k23m1) (c := k23c1) (by decide +kernel) rfl rfl rfl (by decide +kernel)
set_option maxRecDepth 65536 in
theorem w_c32 : (Jvm.Cond.code ({ cls := "java/util/ArrayList", name := "elementData", desc := "(I)Ljava/lang/Object;" } : Jvm.MethodName) jdk_38_method_18_code (2 : Nat) (Option.some (Jvm.ClassFile.FieldType.object "java/lang/Object"))).before args0 about1 = true := code_word (m := ⟨19, 4⟩) (meth := k19m4) (c := k19c4) (by decide +kernel) rfl rfl rfl (by decide +kernel)
set_option maxRecDepth 65536 in
theorem w_c33 : (Jvm.Cond.code ({ cls := "com/example/stairwell/stairwell/sql/UrlParameterHasValuePinLaw", name := "check", desc := "(Ljava/lang/String;Lcom/example/stairwell/stairwell/sql/UrlParameter;)Z" } : Jvm.MethodName) method_3_code (5 : Nat) (Option.some Jvm.ClassFile.FieldType.boolean)).before args0 about1 = true := code_word (m := ⟨1, 2⟩) (meth := k1m2) (c := k1c2) (by decide +kernel) rfl rfl rfl (by decide +kernel)
set_option maxRecDepth 65536 in
theorem w_c34 : (Jvm.Cond.code ({ cls := "com/example/stairwell/stairwell/sql/UrlParameter", name := "start", desc := "()I" } : Jvm.MethodName) prog_78_method_9_code (1 : Nat) (Option.some Jvm.ClassFile.FieldType.int)).before args0 about1 = true := code_word (m := ⟨10, 3⟩) (meth := k10m3) (c := k10c3) (by decide +kernel) rfl rfl rfl (by decide +kernel)
set_option maxRecDepth 65536 in
theorem w_c35 : (Jvm.Cond.code ({ cls := "com/example/stairwell/stairwell/sql/UrlParameter", name := "end", desc := "()I" } : Jvm.MethodName) prog_78_method_11_code (1 : Nat) (Option.some Jvm.ClassFile.FieldType.int)).before args0 about1 = true := code_word (m := ⟨10, 4⟩) (meth := k10m4) (c := k10c4) (by decide +kernel) rfl rfl rfl (by decide +kernel)
set_option maxRecDepth 65536 in
theorem w_c36 : (Jvm.Cond.code ({ cls := "java/lang/String", name := "charAt", desc := "(I)C" } : Jvm.MethodName) jdk_42_method_56_code (2 : Nat) (Option.some Jvm.ClassFile.FieldType.char)).before args0 about1 = true := code_word (m := ⟨7, 3⟩) (meth := k7m3) (c := k7c3) (by decide +kernel) rfl rfl rfl (by decide +kernel)
set_option maxRecDepth 65536 in
theorem w_c37 : (Jvm.Cond.code ({ cls := "java/lang/StringLatin1", name := "charAt", desc := "([BI)C" } : Jvm.MethodName) jdk_43_method_2_code (2 : Nat) (Option.some Jvm.ClassFile.FieldType.char)).before args0 about1 = true := code_word (m := ⟨20, 1⟩) (meth := k20m1) (c := k20c1) (by decide +kernel) rfl rfl rfl (by decide +kernel)
set_option maxRecDepth 65536 in
theorem w_c38 : (Jvm.Cond.code ({ cls := "java/lang/String", name := "checkIndex", desc := "(II)V" } : Jvm.MethodName) jdk_42_method_155_code (2 : Nat) (Option.none : Option Jvm.ClassFile.FieldType)).before args0 about1 = true := code_word (m := ⟨7, 9⟩) (meth := k7m9) (c := k7c9) (by decide +kernel) rfl rfl rfl (by decide +kernel)
set_option maxRecDepth 65536 in
theorem w_c39 : (Jvm.Cond.code ({ cls := "com/example/stairwell/stairwell/sql/UrlParameter", name := "hasValue", desc := "()Z" } : Jvm.MethodName) prog_78_method_4_code (1 : Nat) (Option.some Jvm.ClassFile.FieldType.boolean)).before args0 about1 = true := code_word (m := ⟨10, 2⟩) (meth := k10m2) (c := k10c2) (by decide +kernel) rfl rfl rfl (by decide +kernel)
def codes1 : List Jvm.Cond := [Jvm.Cond.code x code maxLocals ret, Jvm.Cond.code ({ cls := "com/example/stairwell/stairwell/sql/UrlParameterHasValuePinLaw", name := "pick", desc := "(I)C" } : Jvm.MethodName) method_2_code (2 : Nat) (Option.some Jvm.ClassFile.FieldType.char), Jvm.Cond.code ({ cls := "java/lang/String", name := "<init>", desc := "([C)V" } : Jvm.MethodName) jdk_42_method_3_code (2 : Nat) (Option.none : Option Jvm.ClassFile.FieldType), Jvm.Cond.code ({ cls := "java/lang/String", name := "<init>", desc := "([CIILjava/lang/Void;)V" } : Jvm.MethodName) jdk_42_method_149_code (6 : Nat) (Option.none : Option Jvm.ClassFile.FieldType), Jvm.Cond.code ({ cls := "java/lang/Object", name := "<init>", desc := "()V" } : Jvm.MethodName) object_method_1_code (1 : Nat) (Option.none : Option Jvm.ClassFile.FieldType), Jvm.Cond.code ({ cls := "java/lang/StringUTF16", name := "compress", desc := "([CII)[B" } : Jvm.MethodName) jdk_52_method_16_code (6 : Nat) (Option.some (Jvm.ClassFile.FieldType.array Jvm.ClassFile.FieldType.byte)), Jvm.Cond.code ({ cls := "java/lang/StringUTF16", name := "compress", desc := "([CI[BII)I" } : Jvm.MethodName) jdk_52_method_21_code (7 : Nat) (Option.some Jvm.ClassFile.FieldType.int), Jvm.Cond.code ({ cls := "java/lang/StringUTF16", name := "coderFromArrayLen", desc := "([BI)B" } : Jvm.MethodName) jdk_52_method_15_code (2 : Nat) (Option.some Jvm.ClassFile.FieldType.byte), Jvm.Cond.code ({ cls := "com/example/stairwell/stairwell/sql/UrlParameter", name := "in", desc := "(Ljava/lang/String;)Ljava/util/List;" } : Jvm.MethodName) prog_78_method_2_code (6 : Nat) (Option.some (Jvm.ClassFile.FieldType.object "java/util/List")), Jvm.Cond.code ({ cls := "java/util/ArrayList", name := "<init>", desc := "()V" } : Jvm.MethodName) jdk_38_method_2_code (1 : Nat) (Option.none : Option Jvm.ClassFile.FieldType), Jvm.Cond.code ({ cls := "java/util/AbstractList", name := "<init>", desc := "()V" } : Jvm.MethodName) jdk_39_method_1_code (1 : Nat) (Option.none : Option Jvm.ClassFile.FieldType), Jvm.Cond.code ({ cls := "java/util/AbstractCollection", name := "<init>", desc := "()V" } : Jvm.MethodName) jdk_22_method_1_code (1 : Nat) (Option.none : Option Jvm.ClassFile.FieldType), Jvm.Cond.code ({ cls := "java/lang/String", name := "indexOf", desc := "(I)I" } : Jvm.MethodName) jdk_42_method_79_code (2 : Nat) (Option.some Jvm.ClassFile.FieldType.int), Jvm.Cond.code ({ cls := "java/lang/String", name := "indexOf", desc := "(II)I" } : Jvm.MethodName) jdk_42_method_80_code (3 : Nat) (Option.some Jvm.ClassFile.FieldType.int), Jvm.Cond.code ({ cls := "java/lang/String", name := "isLatin1", desc := "()Z" } : Jvm.MethodName) jdk_42_method_154_code (1 : Nat) (Option.some Jvm.ClassFile.FieldType.boolean), Jvm.Cond.code ({ cls := "java/lang/String", name := "length", desc := "()I" } : Jvm.MethodName) jdk_42_method_54_code (1 : Nat) (Option.some Jvm.ClassFile.FieldType.int), Jvm.Cond.code ({ cls := "java/lang/String", name := "coder", desc := "()B" } : Jvm.MethodName) jdk_42_method_152_code (1 : Nat) (Option.some Jvm.ClassFile.FieldType.byte), Jvm.Cond.code ({ cls := "java/lang/StringLatin1", name := "indexOf", desc := "([BIII)I" } : Jvm.MethodName) jdk_43_method_22_code (4 : Nat) (Option.some Jvm.ClassFile.FieldType.int), Jvm.Cond.code ({ cls := "java/lang/StringLatin1", name := "canEncode", desc := "(I)Z" } : Jvm.MethodName) jdk_43_method_4_code (1 : Nat) (Option.some Jvm.ClassFile.FieldType.boolean), Jvm.Cond.code ({ cls := "java/lang/Math", name := "max", desc := "(II)I" } : Jvm.MethodName) jdk_29_method_65_code (2 : Nat) (Option.some Jvm.ClassFile.FieldType.int), Jvm.Cond.code ({ cls := "java/lang/Math", name := "min", desc := "(II)I" } : Jvm.MethodName) jdk_29_method_69_code (2 : Nat) (Option.some Jvm.ClassFile.FieldType.int), Jvm.Cond.code ({ cls := "java/lang/StringLatin1", name := "indexOfChar", desc := "([BIII)I" } : Jvm.MethodName) jdk_43_method_23_code (6 : Nat) (Option.some Jvm.ClassFile.FieldType.int), Jvm.Cond.code ({ cls := "com/example/stairwell/stairwell/sql/UrlParameter", name := "<init>", desc := "(III)V" } : Jvm.MethodName) prog_78_method_1_code (4 : Nat) (Option.none : Option Jvm.ClassFile.FieldType), Jvm.Cond.code ({ cls := "java/lang/Record", name := "<init>", desc := "()V" } : Jvm.MethodName) jdk_30_method_1_code (1 : Nat) (Option.none : Option Jvm.ClassFile.FieldType), Jvm.Cond.code ({ cls := "java/util/ArrayList", name := "add", desc := "(Ljava/lang/Object;)Z" } : Jvm.MethodName) jdk_38_method_25_code (2 : Nat) (Option.some Jvm.ClassFile.FieldType.boolean), Jvm.Cond.code ({ cls := "java/util/ArrayList", name := "add", desc := "(Ljava/lang/Object;[Ljava/lang/Object;I)V" } : Jvm.MethodName) jdk_38_method_24_code (4 : Nat) (Option.none : Option Jvm.ClassFile.FieldType), Jvm.Cond.code ({ cls := "java/util/ArrayList", name := "grow", desc := "()[Ljava/lang/Object;" } : Jvm.MethodName) jdk_38_method_7_code (1 : Nat) (Option.some (Jvm.ClassFile.FieldType.array (Jvm.ClassFile.FieldType.object "java/lang/Object"))), Jvm.Cond.code ({ cls := "java/util/ArrayList", name := "grow", desc := "(I)[Ljava/lang/Object;" } : Jvm.MethodName) jdk_38_method_6_code (4 : Nat) (Option.some (Jvm.ClassFile.FieldType.array (Jvm.ClassFile.FieldType.object "java/lang/Object"))), Jvm.Cond.code ({ cls := "java/util/ArrayList", name := "size", desc := "()I" } : Jvm.MethodName) jdk_38_method_8_code (1 : Nat) (Option.some Jvm.ClassFile.FieldType.int), Jvm.Cond.code ({ cls := "java/util/ArrayList", name := "get", desc := "(I)Ljava/lang/Object;" } : Jvm.MethodName) jdk_38_method_20_code (2 : Nat) (Option.some (Jvm.ClassFile.FieldType.object "java/lang/Object")), Jvm.Cond.code ({ cls := "java/util/Objects", name := "checkIndex", desc := "(II)I" } : Jvm.MethodName) jdk_31_method_17_code (2 : Nat) (Option.some Jvm.ClassFile.FieldType.int), Jvm.Cond.code ({ cls := "jdk/internal/util/Preconditions", name := "checkIndex", desc := "(IILjava/util/function/BiFunction;)I" } : Jvm.MethodName) jdk_41_method_11_code (3 : Nat) (Option.some Jvm.ClassFile.FieldType.int), Jvm.Cond.code ({ cls := "java/util/ArrayList", name := "elementData", desc := "(I)Ljava/lang/Object;" } : Jvm.MethodName) jdk_38_method_18_code (2 : Nat) (Option.some (Jvm.ClassFile.FieldType.object "java/lang/Object")), Jvm.Cond.code ({ cls := "com/example/stairwell/stairwell/sql/UrlParameterHasValuePinLaw", name := "check", desc := "(Ljava/lang/String;Lcom/example/stairwell/stairwell/sql/UrlParameter;)Z" } : Jvm.MethodName) method_3_code (5 : Nat) (Option.some Jvm.ClassFile.FieldType.boolean), Jvm.Cond.code ({ cls := "com/example/stairwell/stairwell/sql/UrlParameter", name := "start", desc := "()I" } : Jvm.MethodName) prog_78_method_9_code (1 : Nat) (Option.some Jvm.ClassFile.FieldType.int), Jvm.Cond.code ({ cls := "com/example/stairwell/stairwell/sql/UrlParameter", name := "end", desc := "()I" } : Jvm.MethodName) prog_78_method_11_code (1 : Nat) (Option.some Jvm.ClassFile.FieldType.int), Jvm.Cond.code ({ cls := "java/lang/String", name := "charAt", desc := "(I)C" } : Jvm.MethodName) jdk_42_method_56_code (2 : Nat) (Option.some Jvm.ClassFile.FieldType.char), Jvm.Cond.code ({ cls := "java/lang/StringLatin1", name := "charAt", desc := "([BI)C" } : Jvm.MethodName) jdk_43_method_2_code (2 : Nat) (Option.some Jvm.ClassFile.FieldType.char), Jvm.Cond.code ({ cls := "java/lang/String", name := "checkIndex", desc := "(II)V" } : Jvm.MethodName) jdk_42_method_155_code (2 : Nat) (Option.none : Option Jvm.ClassFile.FieldType), Jvm.Cond.code ({ cls := "com/example/stairwell/stairwell/sql/UrlParameter", name := "hasValue", desc := "()Z" } : Jvm.MethodName) prog_78_method_4_code (1 : Nat) (Option.some Jvm.ClassFile.FieldType.boolean)]
set_option maxRecDepth 65536 in
theorem codes_eq : words1.filter isCode = codes1 := rfl
theorem w_codes : ∀ c ∈ words1.filter isCode, c.before args0 about1 = true := by
  rw [codes_eq]
  intro c hc
  simp only [codes1, List.mem_cons, List.not_mem_nil, or_false] at hc
  rcases hc with rfl | rfl | rfl | rfl | rfl | rfl | rfl | rfl | rfl | rfl | rfl | rfl | rfl | rfl | rfl | rfl | rfl | rfl | rfl | rfl | rfl | rfl | rfl | rfl | rfl | rfl | rfl | rfl | rfl | rfl | rfl | rfl | rfl | rfl | rfl | rfl | rfl | rfl | rfl | rfl
  · exact w_c0
  · exact w_c1
  · exact w_c2
  · exact w_c3
  · exact w_c4
  · exact w_c5
  · exact w_c6
  · exact w_c7
  · exact w_c8
  · exact w_c9
  · exact w_c10
  · exact w_c11
  · exact w_c12
  · exact w_c13
  · exact w_c14
  · exact w_c15
  · exact w_c16
  · exact w_c17
  · exact w_c18
  · exact w_c19
  · exact w_c20
  · exact w_c21
  · exact w_c22
  · exact w_c23
  · exact w_c24
  · exact w_c25
  · exact w_c26
  · exact w_c27
  · exact w_c28
  · exact w_c29
  · exact w_c30
  · exact w_c31
  · exact w_c32
  · exact w_c33
  · exact w_c34
  · exact w_c35
  · exact w_c36
  · exact w_c37
  · exact w_c38
  · exact w_c39
set_option maxRecDepth 65536 in
theorem w_t1 : (words1.take 24).all (fun c => isCode c || c.before args0 about1) = true := by decide +kernel
set_option maxRecDepth 65536 in
theorem w_t2 : ((words1.drop 24).take 24).all (fun c => isCode c || c.before args0 about1) = true := by decide +kernel
set_option maxRecDepth 65536 in
theorem w_t3 : (((words1.drop 24).drop 24).take 24).all (fun c => isCode c || c.before args0 about1) = true := by decide +kernel
set_option maxRecDepth 65536 in
theorem w_t4 : ((((words1.drop 24).drop 24).drop 24).take 24).all (fun c => isCode c || c.before args0 about1) = true := by decide +kernel
set_option maxRecDepth 65536 in
theorem w_t5 : (((((words1.drop 24).drop 24).drop 24).drop 24).take 24).all (fun c => isCode c || c.before args0 about1) = true := by decide +kernel
set_option maxRecDepth 65536 in
theorem w_t6 : ((((((words1.drop 24).drop 24).drop 24).drop 24).drop 24).take 24).all (fun c => isCode c || c.before args0 about1) = true := by decide +kernel
set_option maxRecDepth 65536 in
theorem w_t7 : (((((((words1.drop 24).drop 24).drop 24).drop 24).drop 24).drop 24).take 24).all (fun c => isCode c || c.before args0 about1) = true := by decide +kernel
set_option maxRecDepth 65536 in
theorem w_t8 : ((((((((words1.drop 24).drop 24).drop 24).drop 24).drop 24).drop 24).drop 24).take 24).all (fun c => isCode c || c.before args0 about1) = true := by decide +kernel
set_option maxRecDepth 65536 in
theorem w_t9 : (((((((((words1.drop 24).drop 24).drop 24).drop 24).drop 24).drop 24).drop 24).drop 24).take 24).all (fun c => isCode c || c.before args0 about1) = true := by decide +kernel
set_option maxRecDepth 65536 in
theorem w_t10 : (((((((((words1.drop 24).drop 24).drop 24).drop 24).drop 24).drop 24).drop 24).drop 24).drop 24).all (fun c => isCode c || c.before args0 about1) = true := by decide +kernel
theorem w_tables : (allAtoms (Jvm.Cond.code x code maxLocals ret :: tables_1)).before args0 about1 = true := by
  rw [allAtoms_all]
  show words1.all (fun c => c.before args0 about1) = true
  refine all_split ?_ w_codes
  rw [← List.take_append_drop 24 words1, List.all_append, w_t1, ← List.take_append_drop 24 (words1.drop 24), List.all_append, w_t2, ← List.take_append_drop 24 ((words1.drop 24).drop 24), List.all_append, w_t3, ← List.take_append_drop 24 (((words1.drop 24).drop 24).drop 24), List.all_append, w_t4, ← List.take_append_drop 24 ((((words1.drop 24).drop 24).drop 24).drop 24), List.all_append, w_t5, ← List.take_append_drop 24 (((((words1.drop 24).drop 24).drop 24).drop 24).drop 24), List.all_append, w_t6, ← List.take_append_drop 24 ((((((words1.drop 24).drop 24).drop 24).drop 24).drop 24).drop 24), List.all_append, w_t7, ← List.take_append_drop 24 (((((((words1.drop 24).drop 24).drop 24).drop 24).drop 24).drop 24).drop 24), List.all_append, w_t8, ← List.take_append_drop 24 ((((((((words1.drop 24).drop 24).drop 24).drop 24).drop 24).drop 24).drop 24).drop 24), List.all_append, w_t9, w_t10]
  rfl
set_option maxRecDepth 65536 in
theorem w_rest : rest_1_c.before args0 about1 = true := by decide +kernel
set_option maxRecDepth 65536 in
theorem w_case : (Jvm.Cond.and given_1 narrow_1).before args0 about1 = true := by decide +kernel
theorem w_applies : (headSpec (Jvm.Cond.code x code maxLocals ret :: tables_1) room_1).applies x e0.platform about1 = true :=
  (Spec.applies_iff w_frames).mpr ⟨w_running, w_runnable, w_alone, w_named, w_hears, w_ripe, w_room, w_tables⟩
theorem atStart : AtStart classFile x code maxLocals ret World_1 tables_1 room_1 Calls_1 rest_1 Pre_1 launch0 p0 e0 about1 theMethod args0 below0 :=
  ⟨lists_1, trivial, launch0.admits_env _ _ _, launch0.least_env, fairChoices_fair.cas, fairChoices_fair.clock, w_frames, w_args, w_heap, w_applies, trivial, w_rest, w_case⟩
end start1
theorem witness_1 : WitnessClaimed_1 := ⟨start1.p0, start1.e0, start1.about1, start1.theMethod, start1.args0, start1.below0, start1.atStart⟩
end Jvm.Pilot.@@N@@
