import JvmDerived
import JvmDerived.Pilot.@@N@@Statement
import JvmDerived.Pilot.@@N@@Code
set_option linter.unusedVariables false
set_option linter.unusedSimpArgs false
namespace Jvm.Own
open Sem ClassFile Op Lib Jvm.Stand Jvm.Free Jvm.LawKit Jvm.RoadKit
/-! THE LAYER. A symbolic heap (a list of cells, each described), and W: from here the body runs to its end with what Q says. One law an instruction: what W asks behind it gives W ahead of it. -/
/-- a field: the class that declares it, its name, its descriptor -/
abbrev Fd : Type := String × String × String
/-- a cell: an object (its class; its known fields; what they hold), or an array (its component type; what it holds) -/
abbrev SC : Type := (String × List Fd × List Value) ⊕ (FieldType × List Value)
abbrev obj (C : String) (fs : List Fd) (vs : List Value) : SC := Sum.inl (C, fs, vs)
abbrev arr (t : FieldType) (vs : List Value) : SC := Sum.inr (t, vs)
/-- its address; may the walk write it; what it is -/
abbrev Ent : Type := Addr × Bool × SC
/-- a String constant that has been loaded: its class, its entry, its text, where it lies -/
abbrev LitE : Type := String × Nat × String × Addr
/-- the launch, the case's start, its arguments, is the frame the narrow one -/
abbrev Gx : Type := Launch × State × Array Value × Bool
abbrev Gx.l (G : Gx) : Launch := G.1
abbrev Gx.Z (G : Gx) : State := G.2.1
abbrev Gx.a0 (G : Gx) : Array Value := G.2.2.1
abbrev Gx.nw (G : Gx) : Bool := G.2.2.2
/-- what one invocation has: program, environment, the state at its start, its method .. -/
abbrev Kx : Type := Program × Env × State × MethodId × Array Value × List Frame × Method × Code
abbrev Kx.p (K : Kx) : Program := K.1
abbrev Kx.e (K : Kx) : Env := K.2.1
abbrev Kx.s (K : Kx) : State := K.2.2.1
abbrev Kx.m (K : Kx) : MethodId := K.2.2.2.1
abbrev Kx.args (K : Kx) : Array Value := K.2.2.2.2.1
abbrev Kx.below (K : Kx) : List Frame := K.2.2.2.2.2.1
abbrev Kx.meth (K : Kx) : Method := K.2.2.2.2.2.2.1
abbrev Kx.c (K : Kx) : Code := K.2.2.2.2.2.2.2

/-- the frames beneath are of methods that the tables know, if those of the start are -/
def FK (G : Gx) (fs : List Frame) : Prop := G.Z.vm.MethodsKnown → G.Z.vm.FramesKnown G.Z.frames → G.Z.vm.FramesKnown fs
theorem FK.start {l : Launch} {s : State} {a0 args : Array Value} {b : Bool} {m : MethodId} {below : List Frame} (hf : s.frames = .invoking m args :: below) : FK (l, s, a0, b) below := fun _ hF y hy => hF y (by show y ∈ s.frames; rw [hf]; exact List.mem_cons_of_mem _ hy)
theorem FK.call {G : Gx} {below fs : List Frame} {vm : Vm} {m : MethodId} {meth : Method} {g : JFrame} (h : FK G below) (hal : G.Z.vm.Alike vm) (hm : vm.method? m = some meth) (hg : g.method = m) (e : fs = .java g :: below) : FK G fs := fun hM hF y hy m' hy' => by
  subst e
  rcases List.mem_cons.mp hy with rfl | hy
  · cases hy'
    rw [hg]
    exact hM m meth (by rw [← hal.method?]; exact hm)
  · exact h hM hF y hy m' hy'

/-! ### the symbolic heap -/
def AV (Z : State) (h : Heap) (a : Addr) (w : Bool) (t : FieldType) (vs : List Value) : Prop :=
  ∃ c : Cell, Arr Z h a c t ∧ c.slots.toList = vs ∧ vs.length < 2147483648 ∧ (∀ v ∈ vs, fits t v = true) ∧ (w = true → (∀ C, t = .object C → Ovr Z c.cls C) ∧ (t = .byte → Z.vm.findClass "[B" = some c.cls))
def LaidAll (Z : State) (a0 : Array Value) (C : String) (fs : List Fd) : Prop :=
  (fs.map fun f => f.2.1).Nodup ∧ ∀ f ∈ fs, Laid Z a0 C f.1 f.2.1 f.2.2 ∧ ∃ t, parseFieldDescriptor f.2.2 = some t
theorem LaidAll.cons {Z : State} {a0 : Array Value} {C O n d : String} {t : FieldType} {fs : List Fd} (h : Laid Z a0 C O n d) (ht : parseFieldDescriptor d = some t) (r : ∀ f ∈ fs, Laid Z a0 C f.1 f.2.1 f.2.2 ∧ ∃ t, parseFieldDescriptor f.2.2 = some t) :
    ∀ f ∈ ((O, n, d) : Fd) :: fs, Laid Z a0 C f.1 f.2.1 f.2.2 ∧ ∃ t, parseFieldDescriptor f.2.2 = some t := fun f hf => by
  rcases List.mem_cons.mp hf with rfl | hf
  · exact ⟨h, t, ht⟩
  · exact r f hf
theorem LaidAll.nil {Z : State} {a0 : Array Value} {C : String} : ∀ f ∈ ([] : List Fd), Laid Z a0 C f.1 f.2.1 f.2.2 ∧ ∃ t, parseFieldDescriptor f.2.2 = some t := fun _ hf => nomatch hf
def Des (Z : State) (a0 : Array Value) (h : Heap) (a : Addr) (w : Bool) : SC → Prop
  | .inl (C, fs, vs) => Exa Z h a C ∧ vs.length = fs.length ∧ (∀ (i : Nat) (f : Fd) (v : Value), fs[i]? = some f → vs[i]? = some v → Fld Z h a f.1 f.2.1 f.2.2 v) ∧ (w = true → LaidAll Z a0 C fs ∧ Unt h a)
  | .inr (t, vs) => AV Z h a w t vs
def Sep (As : List Ent) : Prop := (As.map fun e => (e.1, e.2.1)).Pairwise fun p q => p.2 = true ∨ q.2 = true → p.1 ≠ q.1
def Inv (G : Gx) (As : List Ent) (h : Heap) : Prop :=
  Ext G.Z.heap h ∧ Sep As ∧ ∀ e ∈ As, (e.2.1 = true → G.Z.heap.size ≤ e.1) ∧ Des G.Z G.a0 h e.1 e.2.1 e.2.2
def LI (Z : State) (vm : Vm) (Li : List LitE) : Prop := IB Z vm (Li.map fun q => q.2.2.1) ∧ (∀ q ∈ Li, RoadKit.Lit (Z.setVm vm) q.1 q.2.1 q.2.2.2) ∧
  ∀ q ∈ Li, ∀ (units : Array UInt16) (a : Addr), utf16ToString? units = some q.2.2.1 → vm.interned.find? (fun p => p.1 == units) = some (units, a) → (∃ r ∈ Li, r.2.2.1 = q.2.2.1 ∧ r.2.2.2 = a) ∨ Z.vm.interned.find? (fun p => p.1 == units) = some (units, a)

section Heaps
variable {Z : State} {a0 : Array Value} {h h' : Heap} {a b : Addr} {w : Bool} {sc sc' : SC} {As As' : List Ent} {G : Gx} {C O n d : String} {v : Value} {fs : List Fd} {vs vs' : List Value} {t : FieldType}
theorem Fld.cell' (e : ∀ c, h[a]? = some c → h'[a]? = some c) (F : Fld Z h a C n d v) : Fld Z h' a C n d v := by
  obtain ⟨cell, cf, k, i, f, h1, r⟩ := F; exact ⟨cell, cf, k, i, f, e _ h1, r⟩
theorem Exa.cell' (e : ∀ c, h[a]? = some c → h'[a]? = some c) (F : Exa Z h a C) : Exa Z h' a C := by
  obtain ⟨cell, k, h1, r⟩ := F; exact ⟨cell, k, e _ h1, r⟩
theorem Des.cell (e : ∀ c, h[a]? = some c → h'[a]? = some c) (D : Des Z a0 h a w sc) : Des Z a0 h' a w sc := by
  rcases sc with ⟨C, fs, vs⟩ | ⟨t, vs⟩
  · obtain ⟨h1, h2, h3, h4⟩ := D
    exact ⟨Exa.cell' e h1, h2, fun i f v q r => Fld.cell' e (h3 i f v q r), fun hw => ⟨(h4 hw).1, by obtain ⟨c, u1, u2⟩ := (h4 hw).2; exact ⟨c, e _ u1, u2⟩⟩⟩
  · obtain ⟨c, A, r⟩ := D
    exact ⟨c, ⟨e _ A.1, A.2⟩, r⟩
theorem Des.lt (D : Des Z a0 h a w sc) : a < h.size := by
  rcases sc with ⟨C, fs, vs⟩ | ⟨t, vs⟩
  · exact D.1.lt
  · obtain ⟨c, A, -⟩ := D; exact A.lt
theorem Inv.ext (I : Inv G As h) (E : Ext h h') : Inv G As h' :=
  ⟨⟨Nat.le_trans I.1.1 E.1, fun x c q => E.2 x c (I.1.2 x c q)⟩, I.2.1, fun e he => ⟨(I.2.2 e he).1, (I.2.2 e he).2.cell fun c q => E.2 _ c q⟩⟩
theorem Inv.ge (I : Inv G As h) : G.Z.heap.size ≤ h.size := I.1.1
theorem Inv.push (I : Inv G As h) (E : Ext h h') (D : Des G.Z G.a0 h' h.size w sc) : Inv G ((h.size, w, sc) :: As) h' := by
  have J := I.ext E
  refine ⟨J.1, ?_, fun e he => ?_⟩
  · refine List.pairwise_cons.mpr ⟨fun p hp => ?_, I.2.1⟩
    obtain ⟨e, he, rfl⟩ := List.mem_map.mp hp
    exact fun _ => (Nat.ne_of_lt ((I.2.2 e he).2.lt)).symm
  · rcases List.mem_cons.mp he with rfl | he
    · exact ⟨fun _ => I.ge, D⟩
    · exact J.2.2 e he
/-- one cell of the list gets another description -/
def Upd (As : List Ent) (a : Addr) (sc sc' : SC) (As' : List Ent) : Prop := ∃ pre post, As = pre ++ (a, true, sc) :: post ∧ As' = pre ++ (a, true, sc') :: post
theorem Upd.head : Upd ((a, true, sc) :: As) a sc sc' ((a, true, sc') :: As) := ⟨[], As, rfl, rfl⟩
theorem Upd.tail {e : Ent} (u : Upd As a sc sc' As') : Upd (e :: As) a sc sc' (e :: As') := by
  obtain ⟨pre, post, rfl, rfl⟩ := u; exact ⟨e :: pre, post, rfl, rfl⟩
theorem Upd.mem (u : Upd As a sc sc' As') : (a, true, sc) ∈ As := by obtain ⟨pre, post, rfl, rfl⟩ := u; simp
theorem Inv.upd (I : Inv G As h) (u : Upd As a sc sc' As') (k : ∀ b, b ≠ a → ∀ c : Cell, h[b]? = some c → h'[b]? = some c) (hs : h.size ≤ h'.size) (D : Des G.Z G.a0 h' a true sc') : Inv G As' h' := by
  have hm := I.2.2 _ u.mem
  obtain ⟨pre, post, rfl, rfl⟩ := u
  have ha : G.Z.heap.size ≤ a := hm.1 rfl
  have sp := I.2.1
  refine ⟨⟨Nat.le_trans I.1.1 hs, fun x c q => k x (fun e => ?_) c (I.1.2 x c q)⟩, ?_, fun e he => ?_⟩
  · subst e; exact absurd (Array.getElem?_eq_some_iff.mp q).1 (Nat.not_lt.mpr ha)
  · simpa [Sep] using sp
  · simp only [Sep, List.map_append, List.map_cons, List.pairwise_append, List.pairwise_cons] at sp
    rcases List.mem_append.mp he with he | he
    · have q := I.2.2 e (List.mem_append_left _ he)
      refine ⟨q.1, q.2.cell (k _ ?_)⟩
      exact sp.2.2 _ (List.mem_map_of_mem he) (a, true) (List.mem_cons_self ..) (by simp)
    · rcases List.mem_cons.mp he with rfl | he
      · exact ⟨fun _ => ha, D⟩
      · have q := I.2.2 e (List.mem_append_right _ (List.mem_cons_of_mem _ he))
        refine ⟨q.1, q.2.cell (k _ ?_)⟩
        exact (sp.2.1.1 _ (List.mem_map_of_mem he) (by simp)).symm
/-- two places of the list, one of them the walk's own, are two cells -/
theorem Inv.ne (I : Inv G As h) {i j : Nat} {w' : Bool} (hi : As[i]? = some (a, w, sc)) (hj : As[j]? = some (b, w', sc')) (ij : i < j) (hw : w = true ∨ w' = true) : a ≠ b := by
  have sp := I.2.1
  rw [Sep, List.pairwise_iff_getElem] at sp
  obtain ⟨i1, i2⟩ := List.getElem?_eq_some_iff.mp hi
  obtain ⟨j1, j2⟩ := List.getElem?_eq_some_iff.mp hj
  have q := sp i j (by simpa using i1) (by simpa using j1) ij
  simp only [List.getElem_map, i2, j2] at q
  exact q hw
theorem Inv.perm (I : Inv G As h) (q : As.Perm As') : Inv G As' h := by
  refine ⟨I.1, ?_, fun e he => I.2.2 e (q.mem_iff.mpr he)⟩
  exact (q.map _).pairwise I.2.1 (fun {x y} r s => (r (s.symm)).symm)
theorem Inv.drop (I : Inv G As h) (q : As'.Sublist As) : Inv G As' h :=
  ⟨I.1, I.2.1.sublist (q.map _), fun e he => I.2.2 e (q.subset he)⟩
/-! fields by their names -/
def FAt (fs : List Fd) (vs : List Value) (O n d : String) (v : Value) : Prop := ∃ i : Nat, fs[i]? = some (O, n, d) ∧ vs[i]? = some v
theorem FAt.head : FAt ((O, n, d) :: fs) (v :: vs) O n d v := ⟨0, rfl, rfl⟩
theorem FAt.tail {f : Fd} {u : Value} (q : FAt fs vs O n d v) : FAt (f :: fs) (u :: vs) O n d v := by obtain ⟨i, h1, h2⟩ := q; exact ⟨i + 1, h1, h2⟩
def FUp (fs : List Fd) (vs : List Value) (O n d : String) (v : Value) (vs' : List Value) : Prop := ∃ i : Nat, fs[i]? = some (O, n, d) ∧ i < vs.length ∧ vs' = vs.set i v
theorem FUp.head {u : Value} : FUp ((O, n, d) :: fs) (u :: vs) O n d v (v :: vs) := ⟨0, rfl, Nat.succ_pos _, rfl⟩
theorem FUp.tail {f : Fd} {u : Value} (q : FUp fs vs O n d v vs') : FUp (f :: fs) (u :: vs) O n d v (u :: vs') := by
  obtain ⟨i, h1, h2, rfl⟩ := q; exact ⟨i + 1, h1, Nat.succ_lt_succ h2, rfl⟩
theorem Inv.fld (I : Inv G As h) (hm : (a, w, obj C fs vs) ∈ As) (q : FAt fs vs O n d v) : Fld G.Z h a O n d v := by
  obtain ⟨i, h1, h2⟩ := q; exact (I.2.2 _ hm).2.2.2.1 i _ v h1 h2
theorem Inv.exa (I : Inv G As h) (hm : (a, w, obj C fs vs) ∈ As) : Exa G.Z h a C := (I.2.2 _ hm).2.1
theorem Inv.av (I : Inv G As h) (hm : (a, w, arr t vs) ∈ As) : AV G.Z h a w t vs := (I.2.2 _ hm).2
theorem Inv.old (I : Inv G As h) : Ext G.Z.heap h := I.1
/-- a field is written -/
theorem Inv.wrF (I : Inv G As h) (u : Upd As a (obj C fs vs) (obj C fs vs') As') (q : FUp fs vs O n d v vs') (W : Wr h h' a (RoadKit.slotOf G.Z O n d) v) : Inv G As' h' := by
  have hm := (I.2.2 _ u.mem).2
  obtain ⟨i, h1, h2, rfl⟩ := q
  obtain ⟨e1, e2, e3, e4⟩ := hm
  have L := (e4 rfl).1
  refine I.upd u (fun b hb c hc => ?_) (Nat.le_of_eq W.size.symm) ⟨e1.wr W, by rw [List.length_set]; exact e2, fun j f x hf hx => ?_, fun _ => ⟨L, (e4 rfl).2.wr W⟩⟩
  · obtain ⟨c', q1, -, -, -, q5, -⟩ := wr_at W hc
    rw [q1, q5 hb]
  · by_cases ij : i = j
    · subst ij
      rw [h1] at hf; cases hf
      rw [List.getElem?_set_self h2] at hx; cases hx
      exact (e3 i _ _ h1 (List.getElem?_eq_getElem h2)).same W
    · rw [List.getElem?_set_ne ij] at hx
      refine (e3 j f x hf hx).other W (Or.inr ?_)
      obtain ⟨L1, t1, p1⟩ := L.2 f (List.mem_of_getElem? hf)
      obtain ⟨L2, t2, p2⟩ := L.2 _ (List.mem_of_getElem? h1)
      refine slot_ne L1 L2 (fun e => ?_) p1 p2
      have nd := L.1
      rw [List.nodup_iff_pairwise_ne, List.pairwise_iff_getElem] at nd
      obtain ⟨i1, i2⟩ := List.getElem?_eq_some_iff.mp h1
      obtain ⟨j1, j2⟩ := List.getElem?_eq_some_iff.mp hf
      rcases Nat.lt_or_gt_of_ne ij with lt | lt
      · have := nd i j (by simpa using i1) (by simpa using j1) lt
        simp only [List.getElem_map, i2, j2] at this
        exact this e.symm
      · have := nd j i (by simpa using j1) (by simpa using i1) lt
        simp only [List.getElem_map, i2, j2] at this
        exact this e
/-- a place of an array is written -/
theorem Inv.wrA (I : Inv G As h) {k : Nat} {c : Cell} (A : Arr G.Z h a c t) (u : Upd As a (arr t vs) (arr t (vs.set k v)) As') (hv : fits t v = true) (W : Wr h h' a k v) : Inv G As' h' := by
  have hm := (I.2.2 _ u.mem).2
  obtain ⟨c', A', e1, e2, e3, e4⟩ := hm
  cases A.1.symm.trans A'.1
  refine I.upd u (fun b hb c hc => ?_) (Nat.le_of_eq W.size.symm) ⟨c.setSlot k v, Arr.same W A, ?_, by rw [List.length_set]; exact e2, fun x hx => ?_, e4⟩
  · obtain ⟨c', q1, -, -, -, q5, -⟩ := wr_at W hc
    rw [q1, q5 hb]
  · rw [← e1]; simp [Cell.setSlot]
  · rcases List.mem_or_eq_of_mem_set hx with hx | rfl
    · exact e3 x hx
    · exact hv
theorem LI.warm {s : State} {vm0 vm1 : Vm} {Li : List LitE} (L : LI Z vm0 Li) (hW : (s.setVm vm0).WarmedH vm1) : LI Z vm1 Li := by
  obtain ⟨⟨more, e, hm⟩, r, t⟩ := L
  have hi : vm1.interned = vm0.interned := hW.interned_eq
  exact ⟨⟨more, hi.trans e, hm⟩, fun q hq => Lit.stays (s := s) (r q hq) hW.wide, fun q hq units a hu hf => t q hq units a hu (by rw [← hi]; exact hf)⟩
end Heaps
end Jvm.Own
namespace Jvm.Own
open Sem ClassFile Op Lib Jvm.Stand Jvm.Free Jvm.LawKit Jvm.RoadKit
abbrev Qx : Type := Option Value → List Ent → List LitE → Prop
/-- the run from t ends: the method returns v, and Q says what lies there then -/
def Fini (G : Gx) (K : Kx) (R : Room) (Q : Qx) (t : State) : Prop :=
  ∃ (U : State) (v : Option Value), Steps K.p.tables K.e K.below t U ∧ U.status = .running ∧ Ended U K.below (.returned v) ∧
    ∃ (L : List Loc) (As : List Ent) (Li : List LitE), Q v As Li ∧ Inv G As U.heap ∧ LI G.Z U.vm Li ∧ Fr G.Z.heap.size L ∧ ReturnedEndW K.s (.returned v) U L R.cells R.slots ∧ (G.nw = true → K.s.WarmedH U.vm)
def Ok (G : Gx) (K : Kx) (y : MethodName) (code : ByteArray) (mL : Nat) (ret : Option FieldType) : Prop :=
  K.p.tables.exec = Jvm.exec ∧ K.c.code = code ∧ K.c.maxLocals = mL ∧ G.Z.Warmed39 K.s.vm ∧ K.s.vm.findClass y.cls = some K.m.cls ∧ K.meth.name = y.name ∧ K.meth.sig.returnType = ret ∧ K.meth.locks = false ∧ K.s.methodNamed? y = some K.m ∧ FK G K.below ∧ Ext G.Z.heap K.s.heap
/-- the body of y stands at pc with these locals and this stack over this symbolic heap: it runs to its end -/
def W (G : Gx) (K : Kx) (y : MethodName) (code : ByteArray) (ret : Option FieldType) (R : Room) (Q : Qx) (As : List Ent) (Li : List LitE) (cells slots pc : Nat) (Ls : List Slot) (st : List Value) : Prop :=
  ∀ (T : State) (vm0 : Vm) (k0 : Nat) (locs : List Loc), Ok G K y code Ls.length ret → Stand K.p G.l K.e R (K.s.setVm vm0) K.m K.args K.below K.meth K.c T locs cells slots →
    K.s.Since vm0 k0 → k0 ≤ T.heap.size → (G.nw = true → K.s.WarmedH vm0) → Inv G As T.heap → LI G.Z vm0 Li → Fr G.Z.heap.size locs → Fini G K R Q (T.setTop (mkF K.m pc Ls.toArray st))
section Laws
variable {G : Gx} {K : Kx} {y : MethodName} {code : ByteArray} {ret : Option FieldType} {R : Room} {Q : Qx} {As As' : List Ent} {Li Li' : List LitE} {cells slots pc pc' : Nat} {Ls Ls' : List Slot} {st st' : List Value}
theorem W.via (hlen : Ls'.length = Ls.length) (n : W G K y code ret R Q As Li cells slots pc' Ls' st')
    (stp : ∀ T : State, At T K.m K.c K.below → K.p.tables.exec = Jvm.exec → K.c.code = code → ∀ target, Steps K.p.tables K.e K.below (T.setTop (mkF K.m pc' Ls'.toArray st')) target → Steps K.p.tables K.e K.below (T.setTop (mkF K.m pc Ls.toArray st)) target) :
    W G K y code ret R Q As Li cells slots pc Ls st := by
  intro T vm0 k0 locs ok X hS hk hN hI hL hF
  obtain ⟨U, v, h1, h2⟩ := n T vm0 k0 locs (hlen ▸ ok) X hS hk hN hI hL hF
  exact ⟨U, v, stp T X.here ok.1 ok.2.1 U h1, h2⟩
theorem W.mono {cells' slots' : Nat} (n : W G K y code ret R Q As Li cells' slots' pc Ls st) (hc : cells ≤ cells') (hs : slots ≤ slots') : W G K y code ret R Q As Li cells slots pc Ls st :=
  fun T vm0 k0 locs ok X hS hk hN hI hL hF => n T vm0 k0 locs ok (X.more hc hs) hS hk hN hI hL hF
theorem W.perm (n : W G K y code ret R Q As' Li cells slots pc Ls st) (q : As.Perm As') : W G K y code ret R Q As Li cells slots pc Ls st :=
  fun T vm0 k0 locs ok X hS hk hN hI hL hF => n T vm0 k0 locs ok X hS hk hN (hI.perm q) hL hF
theorem W.drop (n : W G K y code ret R Q As' Li cells slots pc Ls st) (q : As'.Sublist As) : W G K y code ret R Q As Li cells slots pc Ls st :=
  fun T vm0 k0 locs ok X hS hk hN hI hL hF => n T vm0 k0 locs ok X hS hk hN (hI.drop q) hL hF
theorem W.know (n : ∀ h, Inv G As h → W G K y code ret R Q As Li cells slots pc Ls st) : W G K y code ret R Q As Li cells slots pc Ls st :=
  fun T vm0 k0 locs ok X hS hk hN hI hL hF => n T.heap hI T vm0 k0 locs ok X hS hk hN hI hL hF
theorem W.conseq {Q' : Qx} (n : W G K y code ret R Q' As Li cells slots pc Ls st) (q : ∀ v As Li, Q' v As Li → Q v As Li) : W G K y code ret R Q As Li cells slots pc Ls st := by
  intro T vm0 k0 locs ok X hS hk hN hI hL hF
  obtain ⟨U, v, h1, h2, h3, L, A, I, h4, h5⟩ := n T vm0 k0 locs ok X hS hk hN hI hL hF
  exact ⟨U, v, h1, h2, h3, L, A, I, q _ _ _ h4, h5⟩

theorem W.iloadN {k : Fin 4} {v : Int32} (hd : decode code pc = .ok (.iload_n k, 1)) (hl : Ls[k.val]? = some (.val (.int v))) (n : W G K y code ret R Q As Li cells slots (pc + 1) Ls (.int v :: st)) : W G K y code ret R Q As Li cells slots pc Ls st :=
  W.via rfl n fun T h hx hby tg hr => XS.iloadN h hx rfl (hb hby hd) (by simpa using hl) hr
theorem W.iload {k : Nat} {v : Int32} (hd : decode code pc = .ok (.iload k, 2)) (hl : Ls[k]? = some (.val (.int v))) (n : W G K y code ret R Q As Li cells slots (pc + 2) Ls (.int v :: st)) : W G K y code ret R Q As Li cells slots pc Ls st :=
  W.via rfl n fun T h hx hby tg hr => XS.iload h hx rfl (hb hby hd) (by simpa using hl) hr
theorem W.lloadN {k : Fin 4} {v : Int64} (hd : decode code pc = .ok (.lload_n k, 1)) (hl : Ls[k.val]? = some (.val (.long v))) (n : W G K y code ret R Q As Li cells slots (pc + 1) Ls (.long v :: st)) : W G K y code ret R Q As Li cells slots pc Ls st :=
  W.via rfl n fun T h hx hby tg hr => XS.lloadN h hx rfl (hb hby hd) (by simpa using hl) hr
theorem W.lload {k : Nat} {v : Int64} (hd : decode code pc = .ok (.lload k, 2)) (hl : Ls[k]? = some (.val (.long v))) (n : W G K y code ret R Q As Li cells slots (pc + 2) Ls (.long v :: st)) : W G K y code ret R Q As Li cells slots pc Ls st :=
  W.via rfl n fun T h hx hby tg hr => XS.lload h hx rfl (hb hby hd) (by simpa using hl) hr
theorem W.aloadN {k : Fin 4} {v : Value} (hd : decode code pc = .ok (.aload_n k, 1)) (hl : Ls[k.val]? = some (.val v)) (hv : v.isRef = true) (n : W G K y code ret R Q As Li cells slots (pc + 1) Ls (v :: st)) : W G K y code ret R Q As Li cells slots pc Ls st :=
  W.via rfl n fun T h hx hby tg hr => XS.aloadN h hx rfl (hb hby hd) (by simpa using hl) hv hr
theorem W.aload {k : Nat} {v : Value} (hd : decode code pc = .ok (.aload k, 2)) (hl : Ls[k]? = some (.val v)) (hv : v.isRef = true) (n : W G K y code ret R Q As Li cells slots (pc + 2) Ls (v :: st)) : W G K y code ret R Q As Li cells slots pc Ls st :=
  W.via rfl n fun T h hx hby tg hr => XS.aload h hx rfl (hb hby hd) (by simpa using hl) hv hr
theorem W.istoreN {k : Fin 4} {x : Int32} (hd : decode code pc = .ok (.istore_n k, 1)) (hl : storeLocals Ls.toArray k.val (.int x) = some Ls'.toArray) (hn : Ls'.length = Ls.length) (n : W G K y code ret R Q As Li cells slots (pc + 1) Ls' st) : W G K y code ret R Q As Li cells slots pc Ls (.int x :: st) :=
  W.via hn n fun T h hx hby tg hr => XS.istoreN h hx rfl (hb hby hd) rfl hl hr
theorem W.istore {k : Nat} {x : Int32} (hd : decode code pc = .ok (.istore k, 2)) (hl : storeLocals Ls.toArray k (.int x) = some Ls'.toArray) (hn : Ls'.length = Ls.length) (n : W G K y code ret R Q As Li cells slots (pc + 2) Ls' st) : W G K y code ret R Q As Li cells slots pc Ls (.int x :: st) :=
  W.via hn n fun T h hx hby tg hr => XS.istore h hx rfl (hb hby hd) rfl hl hr
theorem W.lstoreN {k : Fin 4} {x : Int64} (hd : decode code pc = .ok (.lstore_n k, 1)) (hl : storeLocals Ls.toArray k.val (.long x) = some Ls'.toArray) (hn : Ls'.length = Ls.length) (n : W G K y code ret R Q As Li cells slots (pc + 1) Ls' st) : W G K y code ret R Q As Li cells slots pc Ls (.long x :: st) :=
  W.via hn n fun T h hx hby tg hr => XS.lstoreN h hx rfl (hb hby hd) rfl hl hr
theorem W.lstore {k : Nat} {x : Int64} (hd : decode code pc = .ok (.lstore k, 2)) (hl : storeLocals Ls.toArray k (.long x) = some Ls'.toArray) (hn : Ls'.length = Ls.length) (n : W G K y code ret R Q As Li cells slots (pc + 2) Ls' st) : W G K y code ret R Q As Li cells slots pc Ls (.long x :: st) :=
  W.via hn n fun T h hx hby tg hr => XS.lstore h hx rfl (hb hby hd) rfl hl hr
theorem W.astoreN {k : Fin 4} {x : Value} (hd : decode code pc = .ok (.astore_n k, 1)) (hv : x.isRef = true) (hl : storeLocals Ls.toArray k.val x = some Ls'.toArray) (hn : Ls'.length = Ls.length) (n : W G K y code ret R Q As Li cells slots (pc + 1) Ls' st) : W G K y code ret R Q As Li cells slots pc Ls (x :: st) :=
  W.via hn n fun T h hx hby tg hr => XS.astoreN h hx rfl (hb hby hd) rfl hv hl hr
theorem W.astore {k : Nat} {x : Value} (hd : decode code pc = .ok (.astore k, 2)) (hv : x.isRef = true) (hl : storeLocals Ls.toArray k x = some Ls'.toArray) (hn : Ls'.length = Ls.length) (n : W G K y code ret R Q As Li cells slots (pc + 2) Ls' st) : W G K y code ret R Q As Li cells slots pc Ls (x :: st) :=
  W.via hn n fun T h hx hby tg hr => XS.astore h hx rfl (hb hby hd) rfl hv hl hr
theorem W.iinc {k : Nat} {cst : Int} {x z : Int32} (hd : decode code pc = .ok (.iinc k cst, 3)) (hk : Ls[k]? = some (.val (.int x))) (hz : Int32.ofInt cst = z) (hl : storeLocals Ls.toArray k (.int (x + z)) = some Ls'.toArray) (hn : Ls'.length = Ls.length) (n : W G K y code ret R Q As Li cells slots (pc + 3) Ls' st) : W G K y code ret R Q As Li cells slots pc Ls st :=
  W.via hn n fun T h hx hby tg hr => XS.iinc h hx rfl (hb hby hd) (by simpa using hk) (by rw [hz]; exact hl) hr
theorem W.iconst {i : Int} {z : Int32} (hd : decode code pc = .ok (.iconst i, 1)) (hz : Int32.ofInt i = z) (n : W G K y code ret R Q As Li cells slots (pc + 1) Ls (.int z :: st)) : W G K y code ret R Q As Li cells slots pc Ls st :=
  W.via rfl n fun T h hx hby tg hr => XS.iconst h hx rfl (hb hby hd) (by rw [hz]; exact hr)
theorem W.bipush {i : Int} {z : Int32} (hd : decode code pc = .ok (.bipush i, 2)) (hz : (Int8.ofInt i).toInt32 = z) (n : W G K y code ret R Q As Li cells slots (pc + 2) Ls (.int z :: st)) : W G K y code ret R Q As Li cells slots pc Ls st :=
  W.via rfl n fun T h hx hby tg hr => XS.bipush h hx rfl (hb hby hd) (by rw [hz]; exact hr)
theorem W.sipush {i : Int} {z : Int32} (hd : decode code pc = .ok (.sipush i, 3)) (hz : (Int16.ofInt i).toInt32 = z) (n : W G K y code ret R Q As Li cells slots (pc + 3) Ls (.int z :: st)) : W G K y code ret R Q As Li cells slots pc Ls st :=
  W.via rfl n fun T h hx hby tg hr => XS.sipush h hx rfl (hb hby hd) (by rw [hz]; exact hr)
theorem W.lconst {k : Fin 2} {z : Int64} (hd : decode code pc = .ok (.lconst k, 1)) (hz : Int64.ofNat k = z) (n : W G K y code ret R Q As Li cells slots (pc + 1) Ls (.long z :: st)) : W G K y code ret R Q As Li cells slots pc Ls st :=
  W.via rfl n fun T h hx hby tg hr => XS.lconst h hx rfl (hb hby hd) (by rw [hz]; exact hr)
theorem W.aconstNull  (hd : decode code pc = .ok (.aconst_null, 1))  (n : W G K y code ret R Q As Li cells slots (pc + 1) Ls (.null :: st)) : W G K y code ret R Q As Li cells slots pc Ls st :=
  W.via rfl n fun T h hx hby tg hr => XS.aconstNull h hx rfl (hb hby hd) hr
theorem W.iadd {x u z : Int32} (hd : decode code pc = .ok (.iadd, 1)) (hz : x + u = z) (n : W G K y code ret R Q As Li cells slots (pc + 1) Ls (.int z :: st)) : W G K y code ret R Q As Li cells slots pc Ls (.int u :: .int x :: st) :=
  W.via rfl n fun T h hx hby tg hr => XS.iadd h hx rfl (hb hby hd) rfl (by subst hz; exact hr)
theorem W.isub {x u z : Int32} (hd : decode code pc = .ok (.isub, 1)) (hz : x - u = z) (n : W G K y code ret R Q As Li cells slots (pc + 1) Ls (.int z :: st)) : W G K y code ret R Q As Li cells slots pc Ls (.int u :: .int x :: st) :=
  W.via rfl n fun T h hx hby tg hr => XS.isub h hx rfl (hb hby hd) rfl (by subst hz; exact hr)
theorem W.imul {x u z : Int32} (hd : decode code pc = .ok (.imul, 1)) (hz : x * u = z) (n : W G K y code ret R Q As Li cells slots (pc + 1) Ls (.int z :: st)) : W G K y code ret R Q As Li cells slots pc Ls (.int u :: .int x :: st) :=
  W.via rfl n fun T h hx hby tg hr => XS.imul h hx rfl (hb hby hd) rfl (by subst hz; exact hr)
theorem W.iand {x u z : Int32} (hd : decode code pc = .ok (.iand, 1)) (hz : x &&& u = z) (n : W G K y code ret R Q As Li cells slots (pc + 1) Ls (.int z :: st)) : W G K y code ret R Q As Li cells slots pc Ls (.int u :: .int x :: st) :=
  W.via rfl n fun T h hx hby tg hr => XS.iand h hx rfl (hb hby hd) rfl (by subst hz; exact hr)
theorem W.ior {x u z : Int32} (hd : decode code pc = .ok (.ior, 1)) (hz : x ||| u = z) (n : W G K y code ret R Q As Li cells slots (pc + 1) Ls (.int z :: st)) : W G K y code ret R Q As Li cells slots pc Ls (.int u :: .int x :: st) :=
  W.via rfl n fun T h hx hby tg hr => XS.ior h hx rfl (hb hby hd) rfl (by subst hz; exact hr)
theorem W.ixor {x u z : Int32} (hd : decode code pc = .ok (.ixor, 1)) (hz : x ^^^ u = z) (n : W G K y code ret R Q As Li cells slots (pc + 1) Ls (.int z :: st)) : W G K y code ret R Q As Li cells slots pc Ls (.int u :: .int x :: st) :=
  W.via rfl n fun T h hx hby tg hr => XS.ixor h hx rfl (hb hby hd) rfl (by subst hz; exact hr)
theorem W.ishl {x u z : Int32} (hd : decode code pc = .ok (.ishl, 1)) (hz : x <<< (u &&& 31) = z) (n : W G K y code ret R Q As Li cells slots (pc + 1) Ls (.int z :: st)) : W G K y code ret R Q As Li cells slots pc Ls (.int u :: .int x :: st) :=
  W.via rfl n fun T h hx hby tg hr => XS.ishl h hx rfl (hb hby hd) rfl (by subst hz; exact hr)
theorem W.ishr {x u z : Int32} (hd : decode code pc = .ok (.ishr, 1)) (hz : x >>> (u &&& 31) = z) (n : W G K y code ret R Q As Li cells slots (pc + 1) Ls (.int z :: st)) : W G K y code ret R Q As Li cells slots pc Ls (.int u :: .int x :: st) :=
  W.via rfl n fun T h hx hby tg hr => XS.ishr h hx rfl (hb hby hd) rfl (by subst hz; exact hr)
theorem W.iushr {x u z : Int32} (hd : decode code pc = .ok (.iushr, 1)) (hz : (x.toUInt32 >>> (u &&& 31).toUInt32).toInt32 = z) (n : W G K y code ret R Q As Li cells slots (pc + 1) Ls (.int z :: st)) : W G K y code ret R Q As Li cells slots pc Ls (.int u :: .int x :: st) :=
  W.via rfl n fun T h hx hby tg hr => XS.iushr h hx rfl (hb hby hd) rfl (by subst hz; exact hr)
theorem W.ladd {x u z : Int64} (hd : decode code pc = .ok (.ladd, 1)) (hz : x + u = z) (n : W G K y code ret R Q As Li cells slots (pc + 1) Ls (.long z :: st)) : W G K y code ret R Q As Li cells slots pc Ls (.long u :: .long x :: st) :=
  W.via rfl n fun T h hx hby tg hr => XS.ladd h hx rfl (hb hby hd) rfl (by subst hz; exact hr)
theorem W.lsub {x u z : Int64} (hd : decode code pc = .ok (.lsub, 1)) (hz : x - u = z) (n : W G K y code ret R Q As Li cells slots (pc + 1) Ls (.long z :: st)) : W G K y code ret R Q As Li cells slots pc Ls (.long u :: .long x :: st) :=
  W.via rfl n fun T h hx hby tg hr => XS.lsub h hx rfl (hb hby hd) rfl (by subst hz; exact hr)
theorem W.lmul {x u z : Int64} (hd : decode code pc = .ok (.lmul, 1)) (hz : x * u = z) (n : W G K y code ret R Q As Li cells slots (pc + 1) Ls (.long z :: st)) : W G K y code ret R Q As Li cells slots pc Ls (.long u :: .long x :: st) :=
  W.via rfl n fun T h hx hby tg hr => XS.lmul h hx rfl (hb hby hd) rfl (by subst hz; exact hr)
theorem W.land {x u z : Int64} (hd : decode code pc = .ok (.land, 1)) (hz : x &&& u = z) (n : W G K y code ret R Q As Li cells slots (pc + 1) Ls (.long z :: st)) : W G K y code ret R Q As Li cells slots pc Ls (.long u :: .long x :: st) :=
  W.via rfl n fun T h hx hby tg hr => XS.land h hx rfl (hb hby hd) rfl (by subst hz; exact hr)
theorem W.lor {x u z : Int64} (hd : decode code pc = .ok (.lor, 1)) (hz : x ||| u = z) (n : W G K y code ret R Q As Li cells slots (pc + 1) Ls (.long z :: st)) : W G K y code ret R Q As Li cells slots pc Ls (.long u :: .long x :: st) :=
  W.via rfl n fun T h hx hby tg hr => XS.lor h hx rfl (hb hby hd) rfl (by subst hz; exact hr)
theorem W.lxor {x u z : Int64} (hd : decode code pc = .ok (.lxor, 1)) (hz : x ^^^ u = z) (n : W G K y code ret R Q As Li cells slots (pc + 1) Ls (.long z :: st)) : W G K y code ret R Q As Li cells slots pc Ls (.long u :: .long x :: st) :=
  W.via rfl n fun T h hx hby tg hr => XS.lxor h hx rfl (hb hby hd) rfl (by subst hz; exact hr)
theorem W.idiv {x u z : Int32} (hd : decode code pc = .ok (.idiv, 1)) (hy : u ≠ 0) (hz : x / u = z) (n : W G K y code ret R Q As Li cells slots (pc + 1) Ls (.int z :: st)) : W G K y code ret R Q As Li cells slots pc Ls (.int u :: .int x :: st) :=
  W.via rfl n fun T h hx hby tg hr => XS.idiv h hx rfl (hb hby hd) rfl hy (by subst hz; exact hr)
theorem W.irem {x u z : Int32} (hd : decode code pc = .ok (.irem, 1)) (hy : u ≠ 0) (hz : x - x / u * u = z) (n : W G K y code ret R Q As Li cells slots (pc + 1) Ls (.int z :: st)) : W G K y code ret R Q As Li cells slots pc Ls (.int u :: .int x :: st) :=
  W.via rfl n fun T h hx hby tg hr => XS.irem h hx rfl (hb hby hd) rfl hy (by subst hz; exact hr)
theorem W.ldiv {x u z : Int64} (hd : decode code pc = .ok (.ldiv, 1)) (hy : u ≠ 0) (hz : x / u = z) (n : W G K y code ret R Q As Li cells slots (pc + 1) Ls (.long z :: st)) : W G K y code ret R Q As Li cells slots pc Ls (.long u :: .long x :: st) :=
  W.via rfl n fun T h hx hby tg hr => XS.ldiv h hx rfl (hb hby hd) rfl hy (by subst hz; exact hr)
theorem W.lrem {x u z : Int64} (hd : decode code pc = .ok (.lrem, 1)) (hy : u ≠ 0) (hz : x - x / u * u = z) (n : W G K y code ret R Q As Li cells slots (pc + 1) Ls (.long z :: st)) : W G K y code ret R Q As Li cells slots pc Ls (.long u :: .long x :: st) :=
  W.via rfl n fun T h hx hby tg hr => XS.lrem h hx rfl (hb hby hd) rfl hy (by subst hz; exact hr)
theorem W.irem' {x u : Int32} (hd : decode code pc = .ok (.irem, 1)) (hy : u ≠ 0) (n : W G K y code ret R Q As Li cells slots (pc + 1) Ls (.int (x % u) :: st)) : W G K y code ret R Q As Li cells slots pc Ls (.int u :: .int x :: st) :=
  W.via rfl n fun T h hx hby tg hr => XS.irem h hx rfl (hb hby hd) rfl hy (by rw [irem_eq_mod]; exact hr)
theorem W.ineg {x : Int32} {z : Int32} (hd : decode code pc = .ok (.ineg, 1)) (hz : -x = z) (n : W G K y code ret R Q As Li cells slots (pc + 1) Ls (.int z :: st)) : W G K y code ret R Q As Li cells slots pc Ls (.int x :: st) :=
  W.via rfl n fun T h hx hby tg hr => XS.ineg h hx rfl (hb hby hd) rfl (by subst hz; exact hr)
theorem W.lneg {x : Int64} {z : Int64} (hd : decode code pc = .ok (.lneg, 1)) (hz : -x = z) (n : W G K y code ret R Q As Li cells slots (pc + 1) Ls (.long z :: st)) : W G K y code ret R Q As Li cells slots pc Ls (.long x :: st) :=
  W.via rfl n fun T h hx hby tg hr => XS.lneg h hx rfl (hb hby hd) rfl (by subst hz; exact hr)
theorem W.i2l {x : Int32} {z : Int64} (hd : decode code pc = .ok (.i2l, 1)) (hz : x.toInt64 = z) (n : W G K y code ret R Q As Li cells slots (pc + 1) Ls (.long z :: st)) : W G K y code ret R Q As Li cells slots pc Ls (.int x :: st) :=
  W.via rfl n fun T h hx hby tg hr => XS.i2l h hx rfl (hb hby hd) rfl (by subst hz; exact hr)
theorem W.l2i {x : Int64} {z : Int32} (hd : decode code pc = .ok (.l2i, 1)) (hz : x.toInt32 = z) (n : W G K y code ret R Q As Li cells slots (pc + 1) Ls (.int z :: st)) : W G K y code ret R Q As Li cells slots pc Ls (.long x :: st) :=
  W.via rfl n fun T h hx hby tg hr => XS.l2i h hx rfl (hb hby hd) rfl (by subst hz; exact hr)
theorem W.i2b {x : Int32} {z : Int32} (hd : decode code pc = .ok (.i2b, 1)) (hz : x.toInt8.toInt32 = z) (n : W G K y code ret R Q As Li cells slots (pc + 1) Ls (.int z :: st)) : W G K y code ret R Q As Li cells slots pc Ls (.int x :: st) :=
  W.via rfl n fun T h hx hby tg hr => XS.i2b h hx rfl (hb hby hd) rfl (by subst hz; exact hr)
theorem W.i2c {x : Int32} {z : Int32} (hd : decode code pc = .ok (.i2c, 1)) (hz : x.toUInt32.toUInt16.toUInt32.toInt32 = z) (n : W G K y code ret R Q As Li cells slots (pc + 1) Ls (.int z :: st)) : W G K y code ret R Q As Li cells slots pc Ls (.int x :: st) :=
  W.via rfl n fun T h hx hby tg hr => XS.i2c h hx rfl (hb hby hd) rfl (by subst hz; exact hr)
theorem W.i2s {x : Int32} {z : Int32} (hd : decode code pc = .ok (.i2s, 1)) (hz : x.toInt16.toInt32 = z) (n : W G K y code ret R Q As Li cells slots (pc + 1) Ls (.int z :: st)) : W G K y code ret R Q As Li cells slots pc Ls (.int x :: st) :=
  W.via rfl n fun T h hx hby tg hr => XS.i2s h hx rfl (hb hby hd) rfl (by subst hz; exact hr)
theorem W.lcmp {x u : Int64} {z : Int32} (hd : decode code pc = .ok (.lcmp, 1)) (hz : lcmpW x u = z) (n : W G K y code ret R Q As Li cells slots (pc + 1) Ls (.int z :: st)) : W G K y code ret R Q As Li cells slots pc Ls (.long u :: .long x :: st) :=
  W.via rfl n fun T h hx hby tg hr => XS.lcmp h hx rfl (hb hby hd) rfl (by subst hz; exact hr)
theorem W.lshl {x z : Int64} {u : Int32} (hd : decode code pc = .ok (.lshl, 1)) (hz : x <<< (u &&& 0x3f).toInt64 = z) (n : W G K y code ret R Q As Li cells slots (pc + 1) Ls (.long z :: st)) : W G K y code ret R Q As Li cells slots pc Ls (.int u :: .long x :: st) :=
  W.via rfl n fun T h hx hby tg hr => XS.lshl h hx rfl (hb hby hd) rfl (by subst hz; exact hr)
theorem W.lshr {x z : Int64} {u : Int32} (hd : decode code pc = .ok (.lshr, 1)) (hz : x >>> (u &&& 0x3f).toInt64 = z) (n : W G K y code ret R Q As Li cells slots (pc + 1) Ls (.long z :: st)) : W G K y code ret R Q As Li cells slots pc Ls (.int u :: .long x :: st) :=
  W.via rfl n fun T h hx hby tg hr => XS.lshr h hx rfl (hb hby hd) rfl (by subst hz; exact hr)
theorem W.lushr {x z : Int64} {u : Int32} (hd : decode code pc = .ok (.lushr, 1)) (hz : (x.toUInt64 >>> (u &&& 0x3f).toInt64.toUInt64).toInt64 = z) (n : W G K y code ret R Q As Li cells slots (pc + 1) Ls (.long z :: st)) : W G K y code ret R Q As Li cells slots pc Ls (.int u :: .long x :: st) :=
  W.via rfl n fun T h hx hby tg hr => XS.lushr h hx rfl (hb hby hd) rfl (by subst hz; exact hr)
theorem W.dup {x : Value} (hd : decode code pc = .ok (.dup, 1)) (hc : x.category = 1) (n : W G K y code ret R Q As Li cells slots (pc + 1) Ls (x :: x :: st)) : W G K y code ret R Q As Li cells slots pc Ls (x :: st) :=
  W.via rfl n fun T h hx hby tg hr => XS.dup h hx rfl (hb hby hd) rfl hc hr
theorem W.pop {x : Value} (hd : decode code pc = .ok (.pop, 1)) (hc : x.category = 1) (n : W G K y code ret R Q As Li cells slots (pc + 1) Ls st) : W G K y code ret R Q As Li cells slots pc Ls (x :: st) :=
  W.via rfl n fun T h hx hby tg hr => XS.pop h hx rfl (hb hby hd) rfl hc hr
theorem W.dupX1 {x z : Value} (hd : decode code pc = .ok (.dup_x1, 1)) (hc : x.category = 1) (hc' : z.category = 1) (n : W G K y code ret R Q As Li cells slots (pc + 1) Ls (x :: z :: x :: st)) : W G K y code ret R Q As Li cells slots pc Ls (x :: z :: st) :=
  W.via rfl n fun T h hx hby tg hr => XS.dupX1 h hx rfl (hb hby hd) rfl hc hc' hr
theorem W.dup2 {x z : Value} (hd : decode code pc = .ok (.dup2, 1)) (hc : x.category = 1) (hc' : z.category = 1) (n : W G K y code ret R Q As Li cells slots (pc + 1) Ls (x :: z :: x :: z :: st)) : W G K y code ret R Q As Li cells slots pc Ls (x :: z :: st) :=
  W.via rfl n fun T h hx hby tg hr => Jvm.Free.XT.dup2 h hx rfl (hb hby hd) rfl hc hc' hr
theorem W.goto {o : Int} (pc' : Nat) (hd : decode code pc = .ok (.goto o, 3)) (ho : 0 ≤ (pc : Int) + o) (hp : ((pc : Int) + o).toNat = pc') (n : W G K y code ret R Q As Li cells slots pc' Ls st) : W G K y code ret R Q As Li cells slots pc Ls st :=
  W.via rfl n fun T h hx hby tg hr => XS.goto h hx rfl rfl (hb hby hd) ho hp hr
theorem W.if1 {cd : ClassFile.Cond} {o : Int} {x : Int32} (pc' : Nat) (hd : decode code pc = .ok (.ifCond cd o, 3)) (ho : 0 ≤ (pc : Int) + o) (hp : ((pc : Int) + o).toNat = pc') (hc : ifCond.holds cd x = true) (n : W G K y code ret R Q As Li cells slots pc' Ls st) : W G K y code ret R Q As Li cells slots pc Ls (.int x :: st) :=
  W.via rfl n fun T h hx hby tg hr => XS.ifYes h hx rfl rfl (hb hby hd) rfl hc ho hp hr
theorem W.if0 {cd : ClassFile.Cond} {o : Int} {x : Int32} (hd : decode code pc = .ok (.ifCond cd o, 3)) (hc : ifCond.holds cd x = false) (n : W G K y code ret R Q As Li cells slots (pc + 3) Ls st) : W G K y code ret R Q As Li cells slots pc Ls (.int x :: st) :=
  W.via rfl n fun T h hx hby tg hr => XS.ifNo h hx rfl (hb hby hd) rfl hc hr
theorem W.ic1 {cd : ClassFile.Cond} {o : Int} {x z : Int32} (pc' : Nat) (hd : decode code pc = .ok (.if_icmp cd o, 3)) (ho : 0 ≤ (pc : Int) + o) (hp : ((pc : Int) + o).toNat = pc') (hc : if_icmp.holds cd x z = true) (n : W G K y code ret R Q As Li cells slots pc' Ls st) : W G K y code ret R Q As Li cells slots pc Ls (.int z :: .int x :: st) :=
  W.via rfl n fun T h hx hby tg hr => XS.icmpYes h hx rfl rfl (hb hby hd) rfl hc ho hp hr
theorem W.ic0 {cd : ClassFile.Cond} {o : Int} {x z : Int32} (hd : decode code pc = .ok (.if_icmp cd o, 3)) (hc : if_icmp.holds cd x z = false) (n : W G K y code ret R Q As Li cells slots (pc + 3) Ls st) : W G K y code ret R Q As Li cells slots pc Ls (.int z :: .int x :: st) :=
  W.via rfl n fun T h hx hby tg hr => XS.icmpNo h hx rfl (hb hby hd) rfl hc hr
theorem W.nullY {o : Int} (pc' : Nat) (hd : decode code pc = .ok (.ifnull o, 3)) (ho : 0 ≤ (pc : Int) + o) (hp : ((pc : Int) + o).toNat = pc') (n : W G K y code ret R Q As Li cells slots pc' Ls st) : W G K y code ret R Q As Li cells slots pc Ls (.null :: st) :=
  W.via rfl n fun T h hx hby tg hr => XS.ifnullYes h hx rfl rfl (hb hby hd) rfl ho hp hr
theorem W.nullN {o : Int} {b : Addr} (hd : decode code pc = .ok (.ifnull o, 3)) (n : W G K y code ret R Q As Li cells slots (pc + 3) Ls st) : W G K y code ret R Q As Li cells slots pc Ls (.ref b :: st) :=
  W.via rfl n fun T h hx hby tg hr => XS.ifnullNo h hx rfl (hb hby hd) rfl hr
theorem W.nonnullY {o : Int} {b : Addr} (pc' : Nat) (hd : decode code pc = .ok (.ifnonnull o, 3)) (ho : 0 ≤ (pc : Int) + o) (hp : ((pc : Int) + o).toNat = pc') (n : W G K y code ret R Q As Li cells slots pc' Ls st) : W G K y code ret R Q As Li cells slots pc Ls (.ref b :: st) :=
  W.via rfl n fun T h hx hby tg hr => XS.ifnonnullYes h hx rfl rfl (hb hby hd) rfl ho hp hr
theorem W.nonnullN {o : Int} (hd : decode code pc = .ok (.ifnonnull o, 3)) (n : W G K y code ret R Q As Li cells slots (pc + 3) Ls st) : W G K y code ret R Q As Li cells slots pc Ls (.null :: st) :=
  W.via rfl n fun T h hx hby tg hr => XS.ifnonnullNo h hx rfl (hb hby hd) rfl hr
theorem W.ac1 {cd : ClassFile.ACond} {o : Int} {x z : Value} (pc' : Nat) (hd : decode code pc = .ok (.if_acmp cd o, 3)) (ho : 0 ≤ (pc : Int) + o) (hp : ((pc : Int) + o).toNat = pc') (h1 : x.isRef = true) (h2 : z.isRef = true) (hc : Jvm.Free.XT.acmp cd x z = true) (n : W G K y code ret R Q As Li cells slots pc' Ls st) : W G K y code ret R Q As Li cells slots pc Ls (z :: x :: st) :=
  W.via rfl n fun T h hx hby tg hr => Jvm.Free.XT.acmpYes h hx rfl rfl (hb hby hd) rfl h1 h2 hc ho hp hr
theorem W.ac0 {cd : ClassFile.ACond} {o : Int} {x z : Value} (hd : decode code pc = .ok (.if_acmp cd o, 3)) (h1 : x.isRef = true) (h2 : z.isRef = true) (hc : Jvm.Free.XT.acmp cd x z = false) (n : W G K y code ret R Q As Li cells slots (pc + 3) Ls st) : W G K y code ret R Q As Li cells slots pc Ls (z :: x :: st) :=
  W.via rfl n fun T h hx hby tg hr => Jvm.Free.XT.acmpNo h hx rfl (hb hby hd) rfl h1 h2 hc hr
theorem W.if_eq {o : Int} {x : Int32} (pc' : Nat) (hd : decode code pc = .ok (.ifCond .eq o, 3)) (ho : 0 ≤ (pc : Int) + o) (hp : ((pc : Int) + o).toNat = pc') (n1 : x = (0 : Int32) → W G K y code ret R Q As Li cells slots pc' Ls st) (n0 : ¬ x = (0 : Int32) → W G K y code ret R Q As Li cells slots (pc + 3) Ls st) : W G K y code ret R Q As Li cells slots pc Ls (.int x :: st) := by
  by_cases h : x = (0 : Int32)
  · exact W.if1 pc' hd ho hp ((Jvm.RoadKit.if0 _ _).trans (teq h).1) (n1 h)
  · exact W.if0 hd ((Jvm.RoadKit.if0 _ _).trans (feq h).1) (n0 h)
theorem W.ic_eq {o : Int} {x z : Int32} (pc' : Nat) (hd : decode code pc = .ok (.if_icmp .eq o, 3)) (ho : 0 ≤ (pc : Int) + o) (hp : ((pc : Int) + o).toNat = pc') (n1 : x = z → W G K y code ret R Q As Li cells slots pc' Ls st) (n0 : ¬ x = z → W G K y code ret R Q As Li cells slots (pc + 3) Ls st) : W G K y code ret R Q As Li cells slots pc Ls (.int z :: .int x :: st) := by
  by_cases h : x = z
  · exact W.ic1 pc' hd ho hp (teq h).1 (n1 h)
  · exact W.ic0 hd (feq h).1 (n0 h)
theorem W.if_ne {o : Int} {x : Int32} (pc' : Nat) (hd : decode code pc = .ok (.ifCond .ne o, 3)) (ho : 0 ≤ (pc : Int) + o) (hp : ((pc : Int) + o).toNat = pc') (n1 : ¬ x = (0 : Int32) → W G K y code ret R Q As Li cells slots pc' Ls st) (n0 : x = (0 : Int32) → W G K y code ret R Q As Li cells slots (pc + 3) Ls st) : W G K y code ret R Q As Li cells slots pc Ls (.int x :: st) := by
  by_cases h : x = (0 : Int32)
  · exact W.if0 hd ((Jvm.RoadKit.if0 _ _).trans (teq h).2) (n0 h)
  · exact W.if1 pc' hd ho hp ((Jvm.RoadKit.if0 _ _).trans (feq h).2) (n1 h)
theorem W.ic_ne {o : Int} {x z : Int32} (pc' : Nat) (hd : decode code pc = .ok (.if_icmp .ne o, 3)) (ho : 0 ≤ (pc : Int) + o) (hp : ((pc : Int) + o).toNat = pc') (n1 : ¬ x = z → W G K y code ret R Q As Li cells slots pc' Ls st) (n0 : x = z → W G K y code ret R Q As Li cells slots (pc + 3) Ls st) : W G K y code ret R Q As Li cells slots pc Ls (.int z :: .int x :: st) := by
  by_cases h : x = z
  · exact W.ic0 hd (teq h).2 (n0 h)
  · exact W.ic1 pc' hd ho hp (feq h).2 (n1 h)
theorem W.if_lt {o : Int} {x : Int32} (pc' : Nat) (hd : decode code pc = .ok (.ifCond .lt o, 3)) (ho : 0 ≤ (pc : Int) + o) (hp : ((pc : Int) + o).toNat = pc') (n1 : x < (0 : Int32) → W G K y code ret R Q As Li cells slots pc' Ls st) (n0 : ¬ x < (0 : Int32) → W G K y code ret R Q As Li cells slots (pc + 3) Ls st) : W G K y code ret R Q As Li cells slots pc Ls (.int x :: st) := by
  by_cases h : x < (0 : Int32)
  · exact W.if1 pc' hd ho hp ((Jvm.RoadKit.if0 _ _).trans (tlt h).1) (n1 h)
  · exact W.if0 hd ((Jvm.RoadKit.if0 _ _).trans (flt h).1) (n0 h)
theorem W.ic_lt {o : Int} {x z : Int32} (pc' : Nat) (hd : decode code pc = .ok (.if_icmp .lt o, 3)) (ho : 0 ≤ (pc : Int) + o) (hp : ((pc : Int) + o).toNat = pc') (n1 : x < z → W G K y code ret R Q As Li cells slots pc' Ls st) (n0 : ¬ x < z → W G K y code ret R Q As Li cells slots (pc + 3) Ls st) : W G K y code ret R Q As Li cells slots pc Ls (.int z :: .int x :: st) := by
  by_cases h : x < z
  · exact W.ic1 pc' hd ho hp (tlt h).1 (n1 h)
  · exact W.ic0 hd (flt h).1 (n0 h)
theorem W.if_ge {o : Int} {x : Int32} (pc' : Nat) (hd : decode code pc = .ok (.ifCond .ge o, 3)) (ho : 0 ≤ (pc : Int) + o) (hp : ((pc : Int) + o).toNat = pc') (n1 : ¬ x < (0 : Int32) → W G K y code ret R Q As Li cells slots pc' Ls st) (n0 : x < (0 : Int32) → W G K y code ret R Q As Li cells slots (pc + 3) Ls st) : W G K y code ret R Q As Li cells slots pc Ls (.int x :: st) := by
  by_cases h : x < (0 : Int32)
  · exact W.if0 hd ((Jvm.RoadKit.if0 _ _).trans (tlt h).2.1) (n0 h)
  · exact W.if1 pc' hd ho hp ((Jvm.RoadKit.if0 _ _).trans (flt h).2.1) (n1 h)
theorem W.ic_ge {o : Int} {x z : Int32} (pc' : Nat) (hd : decode code pc = .ok (.if_icmp .ge o, 3)) (ho : 0 ≤ (pc : Int) + o) (hp : ((pc : Int) + o).toNat = pc') (n1 : ¬ x < z → W G K y code ret R Q As Li cells slots pc' Ls st) (n0 : x < z → W G K y code ret R Q As Li cells slots (pc + 3) Ls st) : W G K y code ret R Q As Li cells slots pc Ls (.int z :: .int x :: st) := by
  by_cases h : x < z
  · exact W.ic0 hd (tlt h).2.1 (n0 h)
  · exact W.ic1 pc' hd ho hp (flt h).2.1 (n1 h)
theorem W.if_gt {o : Int} {x : Int32} (pc' : Nat) (hd : decode code pc = .ok (.ifCond .gt o, 3)) (ho : 0 ≤ (pc : Int) + o) (hp : ((pc : Int) + o).toNat = pc') (n1 : (0 : Int32) < x → W G K y code ret R Q As Li cells slots pc' Ls st) (n0 : ¬ (0 : Int32) < x → W G K y code ret R Q As Li cells slots (pc + 3) Ls st) : W G K y code ret R Q As Li cells slots pc Ls (.int x :: st) := by
  by_cases h : (0 : Int32) < x
  · exact W.if1 pc' hd ho hp ((Jvm.RoadKit.if0 _ _).trans (tlt h).2.2.1) (n1 h)
  · exact W.if0 hd ((Jvm.RoadKit.if0 _ _).trans (flt h).2.2.1) (n0 h)
theorem W.ic_gt {o : Int} {x z : Int32} (pc' : Nat) (hd : decode code pc = .ok (.if_icmp .gt o, 3)) (ho : 0 ≤ (pc : Int) + o) (hp : ((pc : Int) + o).toNat = pc') (n1 : z < x → W G K y code ret R Q As Li cells slots pc' Ls st) (n0 : ¬ z < x → W G K y code ret R Q As Li cells slots (pc + 3) Ls st) : W G K y code ret R Q As Li cells slots pc Ls (.int z :: .int x :: st) := by
  by_cases h : z < x
  · exact W.ic1 pc' hd ho hp (tlt h).2.2.1 (n1 h)
  · exact W.ic0 hd (flt h).2.2.1 (n0 h)
theorem W.if_le {o : Int} {x : Int32} (pc' : Nat) (hd : decode code pc = .ok (.ifCond .le o, 3)) (ho : 0 ≤ (pc : Int) + o) (hp : ((pc : Int) + o).toNat = pc') (n1 : ¬ (0 : Int32) < x → W G K y code ret R Q As Li cells slots pc' Ls st) (n0 : (0 : Int32) < x → W G K y code ret R Q As Li cells slots (pc + 3) Ls st) : W G K y code ret R Q As Li cells slots pc Ls (.int x :: st) := by
  by_cases h : (0 : Int32) < x
  · exact W.if0 hd ((Jvm.RoadKit.if0 _ _).trans (tlt h).2.2.2) (n0 h)
  · exact W.if1 pc' hd ho hp ((Jvm.RoadKit.if0 _ _).trans (flt h).2.2.2) (n1 h)
theorem W.ic_le {o : Int} {x z : Int32} (pc' : Nat) (hd : decode code pc = .ok (.if_icmp .le o, 3)) (ho : 0 ≤ (pc : Int) + o) (hp : ((pc : Int) + o).toNat = pc') (n1 : ¬ z < x → W G K y code ret R Q As Li cells slots pc' Ls st) (n0 : z < x → W G K y code ret R Q As Li cells slots (pc + 3) Ls st) : W G K y code ret R Q As Li cells slots pc Ls (.int z :: .int x :: st) := by
  by_cases h : z < x
  · exact W.ic0 hd (tlt h).2.2.2 (n0 h)
  · exact W.ic1 pc' hd ho hp (flt h).2.2.2 (n1 h)
end Laws
end Jvm.Own
namespace Jvm.Own
open Sem ClassFile Op Lib Jvm.Stand Jvm.Free Jvm.LawKit Jvm.RoadKit
section Laws
variable {G : Gx} {K : Kx} {y : MethodName} {code : ByteArray} {ret : Option FieldType} {R : Room} {Q : Qx} {As As' : List Ent} {Li Li' : List LitE} {cells slots pc pc' : Nat} {Ls Ls' : List Slot} {st st' : List Value}
variable {a b : Addr} {w : Bool} {C O n d R0 host : String} {v x : Value} {fs : List Fd} {vs vs' : List Value} {t ty : FieldType} {idx kk : Nat}
theorem ok_Z {vm0 : Vm} {k0 mL : Nat} (ok : Ok G K y code mL ret) (hS : K.s.Since vm0 k0) : G.Z.Warmed39 (K.s.setVm vm0).vm := State.Warmed39.trans ok.2.2.2.1 hS.1
theorem ok_own {vm0 : Vm} {k0 mL : Nat} (ok : Ok G K y code mL ret) (hS : K.s.Since vm0 k0) : (K.s.setVm vm0).vm.findClass y.cls = some K.m.cls := by
  show vm0.findClass y.cls = _
  rw [hS.1.alike.findClass]; exact ok.2.2.2.2.1
theorem ok_fk {mL : Nat} (ok : Ok G K y code mL ret) : FK G K.below := ok.2.2.2.2.2.2.2.2.2.1
theorem ok_ext {mL : Nat} (ok : Ok G K y code mL ret) : Ext G.Z.heap K.s.heap := ok.2.2.2.2.2.2.2.2.2.2
/-! ### fields -/
theorem W.getF (wl : (Cond.fieldLink y.cls idx R0 n d).before G.a0 G.Z = true ∨ (Cond.fieldLinkNest y.cls idx R0 n d host).before G.a0 G.Z = true) (via : Via G.Z R0 O n d) (hd : decode code pc = .ok (.getfield idx, 3))
    (hm : (a, w, obj C fs vs) ∈ As) (hf : FAt fs vs O n d v) (nx : W G K y code ret R Q As Li cells slots (pc + 3) Ls (v :: st)) : W G K y code ret R Q As Li cells slots pc Ls (.ref a :: st) := by
  intro T vm0 k0 locs ok X hS hk hN hI hL hF
  obtain ⟨T', X', e', st'⟩ := Jvm.RoadKit.getF X ok.1 (ok_Z ok hS) (ok_own ok hS) wl via rfl (hI.fld hm hf) (g := mkF K.m pc Ls.toArray (.ref a :: st)) rfl rfl (hb ok.2.1 hd)
  obtain ⟨U, u, h1, h2⟩ := nx T' vm0 k0 locs ok X' hS (by rw [e']; exact hk) hN (by rw [e']; exact hI) hL hF
  exact ⟨U, u, st' _ h1, h2⟩
/-- .. of an object that stood at the start -/
theorem W.getFo (wl : (Cond.fieldLink y.cls idx R0 n d).before G.a0 G.Z = true ∨ (Cond.fieldLinkNest y.cls idx R0 n d host).before G.a0 G.Z = true) (via : Via G.Z R0 O n d) (hd : decode code pc = .ok (.getfield idx, 3))
    (F : Fld G.Z G.Z.heap a O n d v) (nx : W G K y code ret R Q As Li cells slots (pc + 3) Ls (v :: st)) : W G K y code ret R Q As Li cells slots pc Ls (.ref a :: st) := by
  intro T vm0 k0 locs ok X hS hk hN hI hL hF
  obtain ⟨T', X', e', st'⟩ := Jvm.RoadKit.getF X ok.1 (ok_Z ok hS) (ok_own ok hS) wl via rfl (F.ext hI.old) (g := mkF K.m pc Ls.toArray (.ref a :: st)) rfl rfl (hb ok.2.1 hd)
  obtain ⟨U, u, h1, h2⟩ := nx T' vm0 k0 locs ok X' hS (by rw [e']; exact hk) hN (by rw [e']; exact hI) hL hF
  exact ⟨U, u, st' _ h1, h2⟩
theorem W.putF (wl : (Cond.fieldLink y.cls idx R0 n d).before G.a0 G.Z = true ∨ (Cond.fieldLinkNest y.cls idx R0 n d host).before G.a0 G.Z = true) (via : Via G.Z R0 O n d) (hd : decode code pc = .ok (.putfield idx, 3))
    (L : (Cond.lays C O n d).before G.a0 G.Z = true ∨ ((Cond.laysFinal C O n d).before G.a0 G.Z = true ∧ y.cls = O ∧ y.name = "<init>")) (wi : (Cond.instantiable C kk).before G.a0 G.Z = true)
    (hty : parseFieldDescriptor d = some ty) (hn : narrow ty x = x) (hf : fits ty x = true)
    (u : Upd As a (obj C fs vs) (obj C fs vs') As') (q : FUp fs vs O n d x vs') (nx : W G K y code ret R Q As' Li cells slots (pc + 3) Ls st) : W G K y code ret R Q As Li cells slots pc Ls (x :: .ref a :: st) := by
  intro T vm0 k0 locs ok X hS hk hN hI hL hF
  have hm := u.mem
  obtain ⟨i, q1, q2, -⟩ := id q
  have F0 : Fld G.Z T.heap a O n d vs[i] := (hI.2.2 _ hm).2.2.2.1 i _ _ q1 (List.getElem?_eq_getElem q2)
  obtain ⟨T', h', X', e', W', st'⟩ := Jvm.RoadKit.putF X ok.1 (ok_Z ok hS) (ok_own ok hS) wl via rfl F0 (hI.exa hm) (L.imp id fun r => ⟨r.1, r.2.1, ok.2.2.2.2.2.1.trans r.2.2⟩) wi hty hn hf (g := mkF K.m pc Ls.toArray (x :: .ref a :: st)) rfl rfl (hb ok.2.1 hd)
  obtain ⟨U, u', h1, h2⟩ := nx T' vm0 k0 _ ok X' hS (by rw [e', W'.size]; exact hk) hN (by rw [e']; exact hI.wrF u q W') hL (Fr.snoc X' hF ((hI.2.2 _ hm).1 rfl))
  exact ⟨U, u', st' _ h1, h2⟩
/-- a boolean, byte, char or short: what the field keeps of the int -/
theorem W.putN (wl : (Cond.fieldLink y.cls idx R0 n d).before G.a0 G.Z = true) (via : Via G.Z R0 O n d) (hd : decode code pc = .ok (.putfield idx, 3))
    (L : (Cond.lays C O n d).before G.a0 G.Z = true ∨ ((Cond.laysFinal C O n d).before G.a0 G.Z = true ∧ y.cls = O ∧ y.name = "<init>")) (wi : (Cond.instantiable C kk).before G.a0 G.Z = true)
    {x' : Value} (hty : parseFieldDescriptor d = some ty) (hn : narrow ty x = x') (hf : fits ty x' = true)
    (u : Upd As a (obj C fs vs) (obj C fs vs') As') (q : FUp fs vs O n d x' vs') (nx : W G K y code ret R Q As' Li cells slots (pc + 3) Ls st) : W G K y code ret R Q As Li cells slots pc Ls (x :: .ref a :: st) := by
  intro T vm0 k0 locs ok X hS hk hN hI hL hF
  have hm := u.mem
  obtain ⟨i, q1, q2, -⟩ := id q
  have F0 : Fld G.Z T.heap a O n d vs[i] := (hI.2.2 _ hm).2.2.2.1 i _ _ q1 (List.getElem?_eq_getElem q2)
  obtain ⟨T', h', X', e', W', st'⟩ := Jvm.RoadKit.putFN X ok.1 (ok_Z ok hS) (ok_own ok hS) wl via rfl F0 (hI.exa hm) (L.imp id fun r => ⟨r.1, r.2.1, ok.2.2.2.2.2.1.trans r.2.2⟩) wi hty hn hf (g := mkF K.m pc Ls.toArray (x :: .ref a :: st)) rfl rfl (hb ok.2.1 hd)
  obtain ⟨U, u', h1, h2⟩ := nx T' vm0 k0 _ ok X' hS (by rw [e', W'.size]; exact hk) hN (by rw [e']; exact hI.wrF u q W') hL (Fr.snoc X' hF ((hI.2.2 _ hm).1 rfl))
  exact ⟨U, u', st' _ h1, h2⟩
theorem W.getS (wl : (Cond.fieldLink y.cls idx R0 n d).before G.a0 G.Z = true ∨ (Cond.fieldLinkNest y.cls idx R0 n d host).before G.a0 G.Z = true) (via : Via G.Z R0 O n d) (hd : decode code pc = .ok (.getstatic idx, 3))
    (F : Sta G.Z G.Z.heap O n d v) (nx : W G K y code ret R Q As Li cells slots (pc + 3) Ls (v :: st)) : W G K y code ret R Q As Li cells slots pc Ls st := by
  intro T vm0 k0 locs ok X hS hk hN hI hL hF
  obtain ⟨T', X', e', st'⟩ := getS2 X ok.1 (ok_Z ok hS) (ok_own ok hS) wl via rfl (F.ext hI.old) (g := mkF K.m pc Ls.toArray st) rfl (hb ok.2.1 hd)
  obtain ⟨U, u, h1, h2⟩ := nx T' vm0 k0 locs ok X' hS (by rw [e']; exact hk) hN (by rw [e']; exact hI) hL hF
  exact ⟨U, u, st' _ h1, h2⟩
/-! ### objects and arrays are made -/
def dv (d : String) : Value := defaultValue ((parseFieldDescriptor d).getD .int)
theorem W.new (wl : (Cond.classLink y.cls idx C).before G.a0 G.Z = true) (wi : (Cond.instantiable C kk).before G.a0 G.Z = true) (wz : (Cond.initialized C).before G.a0 G.Z = true) (hd : decode code pc = .ok (.new idx, 3))
    (hl : LaidAll G.Z G.a0 C fs) (hv : (fs.map fun f => dv f.2.2) = vs) (hc : cells + 1 ≤ R.cells) (hs : slots + kk ≤ R.slots)
    (nx : ∀ a, W G K y code ret R Q ((a, true, obj C fs vs) :: As) Li (cells + 1) (slots + kk) (pc + 3) Ls (.ref a :: st)) : W G K y code ret R Q As Li cells slots pc Ls st := by
  intro T vm0 k0 locs ok X hS hk hN hI hL hF
  obtain ⟨T', h', X', e', E, A, D, N, st'⟩ := newO X ok.1 (ok_Z ok hS) (ok_own ok hS) wl wi wz rfl (g := mkF K.m pc Ls.toArray st) rfl (hb ok.2.1 hd) hc hs
  have hD : Des G.Z G.a0 h' T.heap.size true (obj C fs vs) := by
    subst hv
    refine ⟨A, by simp, fun i f v hf hv => ?_, fun _ => ⟨hl, N⟩⟩
    rw [List.getElem?_map, hf] at hv
    cases hv
    obtain ⟨L1, t, ht⟩ := hl.2 f (List.mem_of_getElem? hf)
    have q := D L1 ht
    simpa [dv, ht] using q
  obtain ⟨U, u, h1, h2⟩ := nx T.heap.size T' vm0 k0 locs ok X' hS (by rw [e']; exact Nat.le_trans hk E.1) hN (by rw [e']; exact hI.push E hD) hL hF
  exact ⟨U, u, st' _ h1, h2⟩
theorem AV.of_new {Z : State} {h : Heap} {cA : ClassId} {z : Int32} (A : Arr Z h a (newA cA t z) t) (hO : ∀ C, t = .object C → Ovr Z cA C) (hB : t = .byte → Z.vm.findClass "[B" = some cA) : AV Z h a true t (List.replicate z.toNatClampNeg (defaultValue t)) := by
  refine ⟨_, A, by simp [newA], ?_, fun v hv => ?_, fun _ => ⟨hO, hB⟩⟩
  · have := Int32.toInt_lt z
    rw [List.length_replicate]; simp only [Int32.toNatClampNeg]; omega
  · rw [List.eq_of_mem_replicate hv]; cases t <;> rfl
theorem W.newP {aty : ArrayType} {z : Int32} (cap : Nat) (wl : (Cond.arrayClass (newarray.typeOf aty)).before G.a0 G.Z = true) (hd : decode code pc = .ok (.newarray aty, 2)) (ht : newarray.typeOf aty = t) (hz : ¬ z < 0) (hcap : z.toNatClampNeg ≤ cap) (hb8 : cap * 8 ≤ 536870912)
    (hv : List.replicate z.toNatClampNeg (defaultValue t) = vs) (hc : cells + 1 ≤ R.cells) (hs : slots + cap ≤ R.slots)
    (nx : ∀ a, W G K y code ret R Q ((a, true, arr t vs) :: As) Li (cells + 1) (slots + cap) (pc + 2) Ls (.ref a :: st)) : W G K y code ret R Q As Li cells slots pc Ls (.int z :: st) := by
  intro T vm0 k0 locs ok X hS hk hN hI hL hF
  obtain ⟨T', h', cA, X', e', E, A, Ex, st'⟩ := Jvm.RoadKit.newPE X ok.1 (ok_Z ok hS) wl rfl (g := mkF K.m pc Ls.toArray (.int z :: st)) rfl (hb ok.2.1 hd) rfl hz hcap hb8 hc hs rfl
  have hD : Des G.Z G.a0 h' T.heap.size true (arr t vs) := by
    subst hv; subst ht
    exact AV.of_new A (fun C e => by cases aty <;> cases e) (fun e => by
      obtain ⟨c2, k2, x1, x2, -⟩ := Ex
      cases A.1.symm.trans x1
      rw [e] at x2
      exact x2)
  obtain ⟨U, u, h1, h2⟩ := nx T.heap.size T' vm0 k0 locs ok X' hS (by rw [e']; exact Nat.le_trans hk E.1) hN (by rw [e']; exact hI.push E hD) hL hF
  exact ⟨U, u, st' _ h1, h2⟩
theorem W.newR {z : Int32} (cap : Nat) (wl : (Cond.classLink y.cls idx C).before G.a0 G.Z = true) (wo : (Cond.arrayOver (.object C)).before G.a0 G.Z = true) (hd : decode code pc = .ok (.anewarray idx, 3)) (hz : ¬ z < 0) (hcap : z.toNatClampNeg ≤ cap) (hb8 : cap * 8 ≤ 536870912)
    (hv : List.replicate z.toNatClampNeg Value.null = vs) (hc : cells + 1 ≤ R.cells) (hs : slots + cap ≤ R.slots)
    (nx : ∀ a, W G K y code ret R Q ((a, true, arr (.object C) vs) :: As) Li (cells + 1) (slots + cap) (pc + 3) Ls (.ref a :: st)) : W G K y code ret R Q As Li cells slots pc Ls (.int z :: st) := by
  intro T vm0 k0 locs ok X hS hk hN hI hL hF
  obtain ⟨T', h', cA, X', e', E, A, O, st'⟩ := Jvm.RoadKit.newR X ok.1 (ok_Z ok hS) (ok_own ok hS) wl wo rfl (g := mkF K.m pc Ls.toArray (.int z :: st)) rfl (hb ok.2.1 hd) rfl hz hcap hb8 hc hs
  have hD : Des G.Z G.a0 h' T.heap.size true (arr (.object C) vs) := by
    subst hv
    exact AV.of_new A (fun C' e => by cases e; exact O) (fun e => by cases e)
  obtain ⟨U, u, h1, h2⟩ := nx T.heap.size T' vm0 k0 locs ok X' hS (by rw [e']; exact Nat.le_trans hk E.1) hN (by rw [e']; exact hI.push E hD) hL hF
  exact ⟨U, u, st' _ h1, h2⟩
/-! ### arrays -/
theorem size_of {c : Cell} (e : c.slots.toList = vs) : c.slots.size = vs.length := by rw [← e]; simp
/-- what the walk knows of an array: its own, or one that stood at the start -/
def AVin (G : Gx) (As : List Ent) (a : Addr) (t : FieldType) (vs : List Value) : Prop := (∃ w, (a, w, arr t vs) ∈ As) ∨ AV G.Z G.Z.heap a false t vs
theorem AVin.mem (hm : (a, w, arr t vs) ∈ As) : AVin G As a t vs := Or.inl ⟨w, hm⟩
theorem AVin.old (A : AV G.Z G.Z.heap a false t vs) : AVin G As a t vs := Or.inr A
theorem AVin.get {h : Heap} (q : AVin G As a t vs) (I : Inv G As h) : AV G.Z h a false t vs := by
  rcases q with ⟨w, hm⟩ | ⟨c, A, r⟩
  · obtain ⟨c, A, e1, e2, e3, -⟩ := I.av hm
    exact ⟨c, A, e1, e2, e3, fun q => nomatch q⟩
  · exact ⟨c, A.ext I.old, r⟩
theorem W.alen {z : Int32} (hd : decode code pc = .ok (.arraylength, 1)) (hm : AVin G As a t vs) (hz : vs.length.toInt32 = z) (nx : W G K y code ret R Q As Li cells slots (pc + 1) Ls (.int z :: st)) : W G K y code ret R Q As Li cells slots pc Ls (.ref a :: st) := by
  intro T vm0 k0 locs ok X hS hk hN hI hL hF
  obtain ⟨c, A, e1, e2, e3, e4⟩ := hm.get hI
  obtain ⟨U, u, h1, h2⟩ := nx T vm0 k0 locs ok X hS hk hN hI hL hF
  refine ⟨U, u, X.arraylength ok.1 A.1 (State.isArrayOf_alike (ok_Z ok hS).alike A.2.1) (g := mkF K.m pc Ls.toArray (.ref a :: st)) rfl rfl (hb ok.2.1 hd) _ ?_, h2⟩
  rw [size_of e1, hz]; exact h1
theorem in_of {c : Cell} {j : Int32} (e : c.slots.toList = vs) (hj : ¬ j < 0) (hv : vs[j.toNatClampNeg]? = some v) : ¬ (j < 0 ∨ c.slots.size ≤ j.toNatClampNeg) ∧ c.slots[j.toNatClampNeg]? = some v := by
  refine ⟨fun q => q.elim hj fun r => ?_, ?_⟩
  · rw [size_of e] at r; exact absurd (List.getElem?_eq_some_iff.mp hv).1 (Nat.not_lt.mpr r)
  · rw [← Array.getElem?_toList, e]; exact hv
theorem W.iaload {j : Int32} (hd : decode code pc = .ok (.iaload, 1)) (hm : AVin G As a .int vs) (hj : ¬ j < 0) (hv : vs[j.toNatClampNeg]? = some v) (nx : W G K y code ret R Q As Li cells slots (pc + 1) Ls (v :: st)) : W G K y code ret R Q As Li cells slots pc Ls (.int j :: .ref a :: st) := by
  intro T vm0 k0 locs ok X hS hk hN hI hL hF
  obtain ⟨c, A, e1, -⟩ := hm.get hI
  obtain ⟨i1, i2⟩ := in_of e1 hj hv
  obtain ⟨U, u, h1, h2⟩ := nx T vm0 k0 locs ok X hS hk hN hI hL hF
  exact ⟨U, u, X.iaload ok.1 A.1 (State.isArrayOf_alike (ok_Z ok hS).alike A.2.1) A.2.2 i1 i2 (g := mkF K.m pc Ls.toArray (.int j :: .ref a :: st)) rfl rfl (hb ok.2.1 hd) _ h1, h2⟩
theorem W.laload {j : Int32} (hd : decode code pc = .ok (.laload, 1)) (hm : AVin G As a .long vs) (hj : ¬ j < 0) (hv : vs[j.toNatClampNeg]? = some v) (nx : W G K y code ret R Q As Li cells slots (pc + 1) Ls (v :: st)) : W G K y code ret R Q As Li cells slots pc Ls (.int j :: .ref a :: st) := by
  intro T vm0 k0 locs ok X hS hk hN hI hL hF
  obtain ⟨c, A, e1, -⟩ := hm.get hI
  obtain ⟨i1, i2⟩ := in_of e1 hj hv
  obtain ⟨U, u, h1, h2⟩ := nx T vm0 k0 locs ok X hS hk hN hI hL hF
  exact ⟨U, u, X.laload ok.1 A.1 (State.isArrayOf_alike (ok_Z ok hS).alike A.2.1) A.2.2 i1 i2 (g := mkF K.m pc Ls.toArray (.int j :: .ref a :: st)) rfl rfl (hb ok.2.1 hd) _ h1, h2⟩
theorem W.caload {j : Int32} (hd : decode code pc = .ok (.caload, 1)) (hm : AVin G As a .char vs) (hj : ¬ j < 0) (hv : vs[j.toNatClampNeg]? = some v) (nx : W G K y code ret R Q As Li cells slots (pc + 1) Ls (v :: st)) : W G K y code ret R Q As Li cells slots pc Ls (.int j :: .ref a :: st) := by
  intro T vm0 k0 locs ok X hS hk hN hI hL hF
  obtain ⟨c, A, e1, -⟩ := hm.get hI
  obtain ⟨i1, i2⟩ := in_of e1 hj hv
  obtain ⟨U, u, h1, h2⟩ := nx T vm0 k0 locs ok X hS hk hN hI hL hF
  exact ⟨U, u, X.caload ok.1 A.1 (State.isArrayOf_alike (ok_Z ok hS).alike A.2.1) A.2.2 i1 i2 (g := mkF K.m pc Ls.toArray (.int j :: .ref a :: st)) rfl rfl (hb ok.2.1 hd) _ h1, h2⟩
theorem W.saload {j : Int32} (hd : decode code pc = .ok (.saload, 1)) (hm : AVin G As a .short vs) (hj : ¬ j < 0) (hv : vs[j.toNatClampNeg]? = some v) (nx : W G K y code ret R Q As Li cells slots (pc + 1) Ls (v :: st)) : W G K y code ret R Q As Li cells slots pc Ls (.int j :: .ref a :: st) := by
  intro T vm0 k0 locs ok X hS hk hN hI hL hF
  obtain ⟨c, A, e1, -⟩ := hm.get hI
  obtain ⟨i1, i2⟩ := in_of e1 hj hv
  obtain ⟨U, u, h1, h2⟩ := nx T vm0 k0 locs ok X hS hk hN hI hL hF
  exact ⟨U, u, X.saload ok.1 A.1 (State.isArrayOf_alike (ok_Z ok hS).alike A.2.1) A.2.2 i1 i2 (g := mkF K.m pc Ls.toArray (.int j :: .ref a :: st)) rfl rfl (hb ok.2.1 hd) _ h1, h2⟩
theorem W.baload {j : Int32} (hd : decode code pc = .ok (.baload, 1)) (hm : AVin G As a .byte vs) (hj : ¬ j < 0) (hv : vs[j.toNatClampNeg]? = some v) (nx : W G K y code ret R Q As Li cells slots (pc + 1) Ls (v :: st)) : W G K y code ret R Q As Li cells slots pc Ls (.int j :: .ref a :: st) := by
  intro T vm0 k0 locs ok X hS hk hN hI hL hF
  obtain ⟨c, A, e1, -⟩ := hm.get hI
  obtain ⟨i1, i2⟩ := in_of e1 hj hv
  obtain ⟨U, u, h1, h2⟩ := nx T vm0 k0 locs ok X hS hk hN hI hL hF
  exact ⟨U, u, X.baloadBytes ok.1 A.1 (State.isArrayOf_alike (ok_Z ok hS).alike A.2.1) A.2.2 i1 i2 (g := mkF K.m pc Ls.toArray (.int j :: .ref a :: st)) rfl rfl (hb ok.2.1 hd) _ h1, h2⟩
theorem W.aaload {j : Int32} (hd : decode code pc = .ok (.aaload, 1)) (hm : AVin G As a t vs) (hr : t.isReference = true) (hj : ¬ j < 0) (hv : vs[j.toNatClampNeg]? = some v) (nx : W G K y code ret R Q As Li cells slots (pc + 1) Ls (v :: st)) : W G K y code ret R Q As Li cells slots pc Ls (.int j :: .ref a :: st) := by
  intro T vm0 k0 locs ok X hS hk hN hI hL hF
  obtain ⟨c, A, e1, -⟩ := hm.get hI
  obtain ⟨i1, i2⟩ := in_of e1 hj hv
  obtain ⟨U, u, h1, h2⟩ := nx T vm0 k0 locs ok X hS hk hN hI hL hF
  exact ⟨U, u, X.aaload ok.1 A.1 (State.isArrayOf_alike (ok_Z ok hS).alike A.2.1) hr A.2.2 i1 i2 (g := mkF K.m pc Ls.toArray (.int j :: .ref a :: st)) rfl rfl (hb ok.2.1 hd) _ h1, h2⟩
theorem W.iastore {j z : Int32} {i : Nat} {u : Value} (hd : decode code pc = .ok (.iastore, 1)) (hj : ¬ j < 0) (hi : j.toNatClampNeg = i) (hl : i < vs.length) (hu : (.int z) = u) (hv : vs.set i u = vs') (up : Upd As a (arr .int vs) (arr .int vs') As')
    (nx : W G K y code ret R Q As' Li cells slots (pc + 1) Ls st) : W G K y code ret R Q As Li cells slots pc Ls (.int z :: .int j :: .ref a :: st) := by
  intro T vm0 k0 locs ok X hS hk hN hI hL hF
  have hm := up.mem
  obtain ⟨c, A, e1, e2, e3, e4⟩ := hI.av hm
  subst hi; subst hu; subst hv
  have i1 : ¬ (j < 0 ∨ c.slots.size ≤ j.toNatClampNeg) := fun q => q.elim hj fun r => by rw [size_of e1] at r; exact absurd hl (Nat.not_lt.mpr r)
  obtain ⟨T', h', X', e', W', st'⟩ := stI X ok.1 (ok_Z ok hS) rfl A i1 (g := mkF K.m pc Ls.toArray (.int z :: .int j :: .ref a :: st)) rfl rfl (hb ok.2.1 hd)
  obtain ⟨U, u', h1, h2⟩ := nx T' vm0 k0 _ ok X' hS (by rw [e', W'.size]; exact hk) hN (by rw [e']; exact hI.wrA A up rfl W') hL (Fr.snoc X' hF ((hI.2.2 _ hm).1 rfl))
  exact ⟨U, u', st' _ h1, h2⟩
theorem W.castore {j z : Int32} {i : Nat} {u : Value} (hd : decode code pc = .ok (.castore, 1)) (hj : ¬ j < 0) (hi : j.toNatClampNeg = i) (hl : i < vs.length) (hu : (.int (nar .char z)) = u) (hv : vs.set i u = vs') (up : Upd As a (arr .char vs) (arr .char vs') As')
    (nx : W G K y code ret R Q As' Li cells slots (pc + 1) Ls st) : W G K y code ret R Q As Li cells slots pc Ls (.int z :: .int j :: .ref a :: st) := by
  intro T vm0 k0 locs ok X hS hk hN hI hL hF
  have hm := up.mem
  obtain ⟨c, A, e1, e2, e3, e4⟩ := hI.av hm
  subst hi; subst hu; subst hv
  have i1 : ¬ (j < 0 ∨ c.slots.size ≤ j.toNatClampNeg) := fun q => q.elim hj fun r => by rw [size_of e1] at r; exact absurd hl (Nat.not_lt.mpr r)
  obtain ⟨T', h', X', e', W', st'⟩ := stC X ok.1 (ok_Z ok hS) rfl A i1 (g := mkF K.m pc Ls.toArray (.int z :: .int j :: .ref a :: st)) rfl rfl (hb ok.2.1 hd)
  obtain ⟨U, u', h1, h2⟩ := nx T' vm0 k0 _ ok X' hS (by rw [e', W'.size]; exact hk) hN (by rw [e']; exact hI.wrA A up (fits_nar_char _) W') hL (Fr.snoc X' hF ((hI.2.2 _ hm).1 rfl))
  exact ⟨U, u', st' _ h1, h2⟩
theorem W.bastore {j z : Int32} {i : Nat} {u : Value} (hd : decode code pc = .ok (.bastore, 1)) (hj : ¬ j < 0) (hi : j.toNatClampNeg = i) (hl : i < vs.length) (hu : (.int (nar .byte z)) = u) (hv : vs.set i u = vs') (up : Upd As a (arr .byte vs) (arr .byte vs') As')
    (nx : W G K y code ret R Q As' Li cells slots (pc + 1) Ls st) : W G K y code ret R Q As Li cells slots pc Ls (.int z :: .int j :: .ref a :: st) := by
  intro T vm0 k0 locs ok X hS hk hN hI hL hF
  have hm := up.mem
  obtain ⟨c, A, e1, e2, e3, e4⟩ := hI.av hm
  subst hi; subst hu; subst hv
  have i1 : ¬ (j < 0 ∨ c.slots.size ≤ j.toNatClampNeg) := fun q => q.elim hj fun r => by rw [size_of e1] at r; exact absurd hl (Nat.not_lt.mpr r)
  obtain ⟨T', h', X', e', W', st'⟩ := stB X ok.1 (ok_Z ok hS) rfl A i1 (g := mkF K.m pc Ls.toArray (.int z :: .int j :: .ref a :: st)) rfl rfl (hb ok.2.1 hd)
  obtain ⟨U, u', h1, h2⟩ := nx T' vm0 k0 _ ok X' hS (by rw [e', W'.size]; exact hk) hN (by rw [e']; exact hI.wrA A up (fits_nar_byte _) W') hL (Fr.snoc X' hF ((hI.2.2 _ hm).1 rfl))
  exact ⟨U, u', st' _ h1, h2⟩
theorem W.sastore {j z : Int32} {i : Nat} {u : Value} (hd : decode code pc = .ok (.sastore, 1)) (hj : ¬ j < 0) (hi : j.toNatClampNeg = i) (hl : i < vs.length) (hu : (.int (nar .short z)) = u) (hv : vs.set i u = vs') (up : Upd As a (arr .short vs) (arr .short vs') As')
    (nx : W G K y code ret R Q As' Li cells slots (pc + 1) Ls st) : W G K y code ret R Q As Li cells slots pc Ls (.int z :: .int j :: .ref a :: st) := by
  intro T vm0 k0 locs ok X hS hk hN hI hL hF
  have hm := up.mem
  obtain ⟨c, A, e1, e2, e3, e4⟩ := hI.av hm
  subst hi; subst hu; subst hv
  have i1 : ¬ (j < 0 ∨ c.slots.size ≤ j.toNatClampNeg) := fun q => q.elim hj fun r => by rw [size_of e1] at r; exact absurd hl (Nat.not_lt.mpr r)
  obtain ⟨T', h', X', e', W', st'⟩ := stS X ok.1 (ok_Z ok hS) rfl A i1 (g := mkF K.m pc Ls.toArray (.int z :: .int j :: .ref a :: st)) rfl rfl (hb ok.2.1 hd)
  obtain ⟨U, u', h1, h2⟩ := nx T' vm0 k0 _ ok X' hS (by rw [e', W'.size]; exact hk) hN (by rw [e']; exact hI.wrA A up (fits_nar_short _) W') hL (Fr.snoc X' hF ((hI.2.2 _ hm).1 rfl))
  exact ⟨U, u', st' _ h1, h2⟩
/-! ### casts -/
/-- what the walk knows of an object's class: its own, or one that stood at the start -/
def Is (G : Gx) (As : List Ent) (a : Addr) (C : String) : Prop := (∃ w fs vs, (a, w, obj C fs vs) ∈ As) ∨ Exa G.Z G.Z.heap a C
theorem Is.mem (hm : (a, w, obj C fs vs) ∈ As) : Is G As a C := Or.inl ⟨w, fs, vs, hm⟩
theorem Is.old (E : Exa G.Z G.Z.heap a C) : Is G As a C := Or.inr E
theorem Is.exa {h : Heap} (q : Is G As a C) (I : Inv G As h) : Exa G.Z h a C := by
  rcases q with ⟨w, fs, vs, hm⟩ | E
  · exact I.exa hm
  · exact E.ext I.old
/-- a reference array takes a reference (aastore's own test): null, or an object of a class that may lie there -/
theorem W.aastore {j : Int32} {i : Nat} (hd : decode code pc = .ok (.aastore, 1)) (hj : ¬ j < 0) (hi : j.toNatClampNeg = i) (hl : i < vs.length) (hr : x = .null ∨ ∃ o D, x = .ref o ∧ Is G As o D ∧ (D = C ∨ (Cond.castable D C).before G.a0 G.Z = true)) (hv : vs.set i x = vs') (up : Upd As a (arr (.object C) vs) (arr (.object C) vs') As')
    (nx : W G K y code ret R Q As' Li cells slots (pc + 1) Ls st) : W G K y code ret R Q As Li cells slots pc Ls (x :: .int j :: .ref a :: st) := by
  intro T vm0 k0 locs ok X hS hk hN hI hL hF
  have hm := up.mem
  obtain ⟨c, A, e1, e2, e3, e4⟩ := hI.av hm
  subst hi; subst hv
  have i1 : ¬ (j < 0 ∨ c.slots.size ≤ j.toNatClampNeg) := fun q => q.elim hj fun r => by rw [size_of e1] at r; exact absurd hl (Nat.not_lt.mpr r)
  have S : Sto G.Z T.heap a x := by
    rcases hr with rfl | ⟨o, D, rfl, q, rfl | q'⟩
    · exact Or.inl rfl
    · exact Sto.of A ((e4 rfl).1 _ rfl) (Ins.self (q.exa hI))
    · exact Sto.of A ((e4 rfl).1 _ rfl) (Ins.of_exa (q.exa hI) q')
  have hfx : fits (.object C) x = true := by rcases hr with rfl | ⟨o, D, rfl, -⟩ <;> rfl
  obtain ⟨T', h', X', e', W', st'⟩ := stR X ok.1 (ok_Z ok hS) rfl A i1 rfl S (g := mkF K.m pc Ls.toArray (x :: .int j :: .ref a :: st)) rfl rfl (hb ok.2.1 hd)
  obtain ⟨U, u', h1, h2⟩ := nx T' vm0 k0 _ ok X' hS (by rw [e', W'.size]; exact hk) hN (by rw [e']; exact hI.wrA A up hfx W') hL (Fr.snoc X' hF ((hI.2.2 _ hm).1 rfl))
  exact ⟨U, u', st' _ h1, h2⟩
theorem W.castN {g : Nat} (hd : decode code pc = .ok (.checkcast idx, 3)) (nx : W G K y code ret R Q As Li cells slots (pc + 3) Ls (.null :: st)) : W G K y code ret R Q As Li cells slots pc Ls (.null :: st) := by
  intro T vm0 k0 locs ok X hS hk hN hI hL hF
  obtain ⟨U, u, h1, h2⟩ := nx T vm0 k0 locs ok X hS hk hN hI hL hF
  exact ⟨U, u, X.checkcastNull ok.1 (g := mkF K.m pc Ls.toArray (.null :: st)) rfl rfl (hb ok.2.1 hd) _ h1, h2⟩
theorem W.instNull (hd : decode code pc = .ok (.instanceof idx, 3)) (nx : W G K y code ret R Q As Li cells slots (pc + 3) Ls (.int 0 :: st)) : W G K y code ret R Q As Li cells slots pc Ls (.null :: st) := by
  intro T vm0 k0 locs ok X hS hk hN hI hL hF
  obtain ⟨U, u, h1, h2⟩ := nx T vm0 k0 locs ok X hS hk hN hI hL hF
  exact ⟨U, u, X.instanceofNull ok.1 (g := mkF K.m pc Ls.toArray (.null :: st)) rfl rfl (hb ok.2.1 hd) _ h1, h2⟩
theorem W.cast {D : String} (wl : (Cond.classLink y.cls idx D).before G.a0 G.Z = true) (hd : decode code pc = .ok (.checkcast idx, 3)) (hm : Is G As a C) (hc : C = D ∨ (Cond.castable C D).before G.a0 G.Z = true)
    (nx : W G K y code ret R Q As Li cells slots (pc + 3) Ls (.ref a :: st)) : W G K y code ret R Q As Li cells slots pc Ls (.ref a :: st) := by
  intro T vm0 k0 locs ok X hS hk hN hI hL hF
  have E := hm.exa hI
  have F : Ins G.Z T.heap a D true := hc.elim (fun e => by subst e; exact Ins.self E) (fun q => Ins.of_exa E q)
  obtain ⟨T', X', e', st'⟩ := castY X ok.1 (ok_Z ok hS) (ok_own ok hS) wl rfl F (g := mkF K.m pc Ls.toArray (.ref a :: st)) rfl rfl (hb ok.2.1 hd)
  obtain ⟨U, u, h1, h2⟩ := nx T' vm0 k0 locs ok X' hS (by rw [e']; exact hk) hN (by rw [e']; exact hI) hL hF
  exact ⟨U, u, st' _ h1, h2⟩
theorem W.inst {D : String} (wl : (Cond.classLink y.cls idx D).before G.a0 G.Z = true) (hd : decode code pc = .ok (.instanceof idx, 3)) (hm : Is G As a C) (hc : C = D ∨ (Cond.castable C D).before G.a0 G.Z = true)
    (nx : W G K y code ret R Q As Li cells slots (pc + 3) Ls (.int 1 :: st)) : W G K y code ret R Q As Li cells slots pc Ls (.ref a :: st) := by
  intro T vm0 k0 locs ok X hS hk hN hI hL hF
  have E := hm.exa hI
  have F : Ins G.Z T.heap a D true := hc.elim (fun e => by subst e; exact Ins.self E) (fun q => Ins.of_exa E q)
  obtain ⟨T', X', e', st'⟩ := instY X ok.1 (ok_Z ok hS) (ok_own ok hS) wl rfl F (g := mkF K.m pc Ls.toArray (.ref a :: st)) rfl rfl (hb ok.2.1 hd)
  obtain ⟨U, u, h1, h2⟩ := nx T' vm0 k0 locs ok X' hS (by rw [e']; exact hk) hN (by rw [e']; exact hI) hL hF
  exact ⟨U, u, st' _ h1, h2⟩
theorem W.instNo {D : String} (wl : (Cond.classLink y.cls idx D).before G.a0 G.Z = true) (hd : decode code pc = .ok (.instanceof idx, 3)) (hm : Is G As a C) (hc : ∃ c t, G.Z.vm.findClass C = some c ∧ G.Z.vm.findClass D = some t ∧ G.Z.vm.assignable c t = false)
    (nx : W G K y code ret R Q As Li cells slots (pc + 3) Ls (.int 0 :: st)) : W G K y code ret R Q As Li cells slots pc Ls (.ref a :: st) := by
  intro T vm0 k0 locs ok X hS hk hN hI hL hF
  obtain ⟨T', X', e', st'⟩ := Jvm.RoadKit.instNo X ok.1 (ok_Z ok hS) (ok_own ok hS) wl rfl (hm.exa hI) hc (g := mkF K.m pc Ls.toArray (.ref a :: st)) rfl rfl (hb ok.2.1 hd)
  obtain ⟨U, u, h1, h2⟩ := nx T' vm0 k0 locs ok X' hS (by rw [e']; exact hk) hN (by rw [e']; exact hI) hL hF
  exact ⟨U, u, st' _ h1, h2⟩
theorem W.ldcI {z : Int32} (wl : (Cond.constant y.cls idx z).before G.a0 G.Z = true) (hd : decode code pc = .ok (.ldc idx, 2)) (nx : W G K y code ret R Q As Li cells slots (pc + 2) Ls (.int z :: st)) : W G K y code ret R Q As Li cells slots pc Ls st := by
  intro T vm0 k0 locs ok X hS hk hN hI hL hF
  obtain ⟨U, u, h1, h2⟩ := nx T vm0 k0 locs ok X hS hk hN hI hL hF
  exact ⟨U, u, X.ldcInt ok.1 (ok_own ok hS) (mvT (ok_Z ok hS) wl) (g := mkF K.m pc Ls.toArray st) rfl (hb ok.2.1 hd) _ h1, h2⟩
theorem W.ldcJ {z : Int64} (wl : (Cond.constantLong y.cls idx z).before G.a0 G.Z = true) (hd : decode code pc = .ok (.ldc2_w idx, 3)) (nx : W G K y code ret R Q As Li cells slots (pc + 3) Ls (.long z :: st)) : W G K y code ret R Q As Li cells slots pc Ls st := by
  intro T vm0 k0 locs ok X hS hk hN hI hL hF
  obtain ⟨U, u, h1, h2⟩ := nx T vm0 k0 locs ok X hS hk hN hI hL hF
  exact ⟨U, u, X.ldc2Long ok.1 (ok_own ok hS) (mvT (ok_Z ok hS) wl) (g := mkF K.m pc Ls.toArray st) rfl (hb ok.2.1 hd) _ h1, h2⟩
/-! ### returns -/
theorem W.ret0 {T : State} {vm0 : Vm} {k0 : Nat} {locs : List Loc} (u : Option Value) (X : Stand K.p G.l K.e R (K.s.setVm vm0) K.m K.args K.below K.meth K.c T locs cells slots) (hS : K.s.Since vm0 k0) (hk : k0 ≤ T.heap.size) (hN : G.nw = true → K.s.WarmedH vm0) (hI : Inv G As T.heap) (hL : LI G.Z vm0 Li) (hF : Fr G.Z.heap.size locs)
    (hlk : K.meth.locks = false) (hv : K.meth.sig.returnType = none → u = none) (hq : Q u As Li) (hc : cells ≤ R.cells) (hs : slots ≤ R.slots) {t : State}
    (stp : ∀ fs, (∀ (f : JFrame) (acts : List Action), f.method = K.m → f.locked = none → f.entered = [] → (doReturn K.e (T.setTop f) acts u).1 = T.setFrames fs) → Steps K.p.tables K.e K.below t (T.setFrames fs)) : Fini G K R Q t := by
  obtain ⟨fs, hr, hrun, hended, e1, e2, e3, e4⟩ := X.leaveW hS hk (v := u) hv hlk
  exact ⟨T.setFrames fs, u, stp fs hr, hrun, hended, locs, As, Li, hq, hI, hL.warm X.warmed, hF, ⟨e1, e2, e3, e4.mono hc hs⟩, fun nw => State.WarmedH.trans (t := K.s.setVm vm0) (hN nw) X.warmed⟩
theorem W.vret (hd : decode code pc = .ok (.return_, 1)) (hr : ret = none) (hq : Q none As Li) (hc : cells ≤ R.cells) (hs : slots ≤ R.slots) : W G K y code ret R Q As Li cells slots pc Ls [] := by
  intro T vm0 k0 locs ok X hS hk hN hI hL hF
  obtain ⟨ox, ob, -, -, -, -, ort, olk, -⟩ := ok
  exact W.ret0 none X hS hk hN hI hL hF olk (fun _ => rfl) hq hc hs fun fs h => X.returnOut ox (ort.trans hr) (hb ob hd) h
theorem W.iret {z : Int32} {tt : FieldType} (hd : decode code pc = .ok (.ireturn, 1)) (hr : ret = some tt) (ht : tt = .int ∨ tt = .boolean ∨ tt = .byte ∨ tt = .char ∨ tt = .short) (hn : narrow tt (.int z) = .int z) (hq : Q (some (.int z)) As Li) (hc : cells ≤ R.cells) (hs : slots ≤ R.slots) : W G K y code ret R Q As Li cells slots pc Ls (.int z :: st) := by
  intro T vm0 k0 locs ok X hS hk hN hI hL hF
  obtain ⟨ox, ob, -, -, -, -, ort, olk, -⟩ := ok
  exact W.ret0 (some (.int z)) X hS hk hN hI hL hF olk (fun q => by rw [ort, hr] at q; cases q) hq hc hs fun fs h => retOut X ox (ort.trans hr) hn (Or.inl ⟨rfl, ht, z, rfl⟩) (hb ob hd) h
theorem W.lret {z : Int64} (hd : decode code pc = .ok (.lreturn, 1)) (hr : ret = some .long) (hq : Q (some (.long z)) As Li) (hc : cells ≤ R.cells) (hs : slots ≤ R.slots) : W G K y code ret R Q As Li cells slots pc Ls (.long z :: st) := by
  intro T vm0 k0 locs ok X hS hk hN hI hL hF
  obtain ⟨ox, ob, -, -, -, -, ort, olk, -⟩ := ok
  exact W.ret0 (some (.long z)) X hS hk hN hI hL hF olk (fun q => by rw [ort, hr] at q; cases q) hq hc hs fun fs h => retOut X ox (ort.trans hr) rfl (Or.inr (Or.inl ⟨rfl, rfl, z, rfl⟩)) (hb ob hd) h
theorem W.aret {tt : FieldType} (hd : decode code pc = .ok (.areturn, 1)) (hr : ret = some tt) (ht : tt.isReference = true) (hx : x.isRef = true) (hq : Q (some x) As Li) (hc : cells ≤ R.cells) (hs : slots ≤ R.slots) : W G K y code ret R Q As Li cells slots pc Ls (x :: st) := by
  intro T vm0 k0 locs ok X hS hk hN hI hL hF
  obtain ⟨ox, ob, -, -, -, -, ort, olk, -⟩ := ok
  have hn : narrow tt x = x := by rcases ref_cases hx with rfl | ⟨_, rfl⟩ <;> cases tt <;> rfl
  exact W.ret0 (some x) X hS hk hN hI hL hF olk (fun q => by rw [ort, hr] at q; cases q) hq hc hs fun fs h => retOut X ox (ort.trans hr) hn (Or.inr (Or.inr (Or.inr (Or.inr ⟨rfl, ht, hx⟩)))) (hb ob hd) h
end Laws
end Jvm.Own
namespace Jvm.Own
open Sem ClassFile Op Lib Jvm.Stand Jvm.Free Jvm.LawKit Jvm.RoadKit
/-! ### contracts and calls -/
/-- the contract of y: called with these arguments over this symbolic heap it returns, as Q says -/
def Ct (G : Gx) (ws : List Jvm.Cond) (y : MethodName) (code : ByteArray) (mL : Nat) (ret : Option FieldType) (R : Room) (args : List Value) (As : List Ent) (Li : List LitE) (Q : Qx) : Prop :=
  MetFree G.l y (head1 (Cond.code y code mL ret :: ws) R) (fun a U => a = args.toArray ∧ G.Z.Warmed39 U.vm ∧ Inv G As U.heap ∧ LI G.Z U.vm Li) (fun _ _ below _ _ => FK G below)
    (fun _ U o U' => ∃ (v : Option Value) (L : List Loc) (As' : List Ent) (Li' : List LitE), o = .returned v ∧ Q v As' Li' ∧ Inv G As' U'.heap ∧ LI G.Z U'.vm Li' ∧ Fr G.Z.heap.size L ∧ ReturnedEndW U o U' L R.cells R.slots ∧ (G.nw = true → U.WarmedH U'.vm))
section Calls
variable {G : Gx} {K : Kx} {y : MethodName} {code : ByteArray} {ret : Option FieldType} {R : Room} {Q : Qx} {As As' : List Ent} {Li Li' : List LitE} {cells slots pc pc' : Nat} {Ls Ls' : List Slot} {st st' : List Value}
theorem Ct.intro {ws : List Jvm.Cond} {mL : Nat} {args : List Value} (hp : plainFor y = true) (he : argsToLocals args.toArray mL = Ls.toArray) (hl : Ls.length = mL) (w : ∀ K, W G K y code ret R Q As Li 0 0 0 Ls []) :
    Ct G ws y code mL ret R args As Li Q := by
  refine MetFree.of_bodySF hp hisR ?_
  intro p e s m args' below meth c s₁ Bd hml0 hP hK
  obtain ⟨rfl, hZ, hI, hL⟩ := hP
  have X0 : Stand p G.l e R s m args.toArray below meth c s₁ [] 0 0 := Stand.of_body Bd
  have e0 : s₁.heap = s.heap := by rw [Bd.state]; rfl
  have ok : Ok G (p, e, s, m, args.toArray, below, meth, c) y code Ls.length ret := ⟨Bd.exec, Bd.bytes, hml0.trans hl.symm, hZ, findClass_of_methodNamed Bd.named, (name_of_methodNamed Bd.named Bd.method).1, Bd.returns, Bd.notSynchronized, Bd.named, hK, hI.1⟩
  obtain ⟨U, v, h1, h2, h3, L, A, I, h4, h5, h6, h7, h8, h9⟩ := w (p, e, s, m, args.toArray, below, meth, c) s₁ s.vm s.heap.size [] ok X0 ((State.WarmedH.refl s).since _) (by rw [e0]; exact Nat.le_refl _) (fun _ => State.WarmedH.refl s) (by rw [e0]; exact hI) hL (Fr.nil _)
  refine ⟨U, .returned v, ?_, h2, h3, v, L, A, I, rfl, h4, h5, h6, h7, h8, h9⟩
  have hE : entryFrame m args.toArray mL = mkF m 0 Ls.toArray [] := by
    show ({ method := m, pc := 0, locals := argsToLocals args.toArray mL, stack := [], locked := none } : JFrame) = _
    rw [he]
  rw [hE]
  exact h1
theorem Ct.weaken {ws : List Jvm.Cond} {mL : Nat} {args : List Value} {Q' : Qx} (h : Ct G ws y code mL ret R args As Li Q) (q : ∀ v A L, Q v A L → Q' v A L) : Ct G ws y code mL ret R args As Li Q' :=
  MetFree.mono h (fun _ _ h => h) (fun _ _ _ _ _ h => h) fun _ _ _ _ _ ⟨v, L, A, I, h1, h2, h3⟩ => ⟨v, L, A, I, h1, q _ _ _ h2, h3⟩
variable {z : MethodName} {code' : ByteArray} {ret' : Option FieldType} {R' : Room} {mL' : Nat} {Q' : Qx} {argsL rest : List Value} {idx : Nat} {sg : MethodDescriptor}
/-- what a call by its contract asks ahead and gives behind -/
abbrev PreC (G : Gx) (As : List Ent) (Li : List LitE) (R R' : Room) (as' : Array Value) : Pt → Array Value → Prop :=
  fun A a => a = as' ∧ Inv G As A.U.heap ∧ LI G.Z A.U.vm Li ∧ A.cells + R'.cells ≤ R.cells ∧ A.slots + R'.slots ≤ R.slots
abbrev PostC (G : Gx) (R' : Room) (Q' : Qx) : Pt → Array Value → Option Value → Pt → Prop :=
  fun A _ v B => ∃ (L : List Loc) (As' : List Ent) (Li' : List LitE), Q' v As' Li' ∧ Inv G As' B.U.heap ∧ LI G.Z B.U.vm Li' ∧ Fr G.Z.heap.size L ∧ (G.nw = true → A.U.WarmedH B.U.vm) ∧ B.locs = A.locs ++ L ∧ B.cells = A.cells + R'.cells ∧ B.slots = A.slots + R'.slots
theorem backC {p : Program} {e : Env} {below : List Frame} {s : State} {sargs : Array Value} {len Wt : Nat} (hfk : FK G below) (hC : Ct G [] z code' mL' ret' R' argsL As Li Q') (hZ : G.Z.Warmed39 s.vm) (wc : (Cond.code z code' mL' ret').before G.a0 G.Z = true) (wz : (Cond.initialized z.cls).before G.a0 G.Z = true)
    (hf : R'.frames + 1 ≤ R.frames) (hl : Wt + (mL' + 11) + R'.locals ≤ R.locals) : BackS G.l R p e below s sargs z len Wt (PreC G As Li R R' argsL.toArray) (PostC G R' Q') :=
  BackS.of_freeWG (bytes := code') (maxL := mL') (ret := ret')
    (E := fun _ first o t L k n => k = R'.cells ∧ n = R'.slots ∧ ∃ v, o = .returned v ∧ ∃ As' Li', Q' v As' Li' ∧ Inv G As' t.heap ∧ LI G.Z t.vm Li' ∧ Fr G.Z.heap.size L ∧ (G.nw = true → first.WarmedH t.vm)) hC hf hl
    (fun m meth c A a Y hp => have hU : G.Z.Warmed39 A.U.vm := wtrans hZ Y.warmed
      ⟨by show (Cond.and _ .tt).before a A.U = true; rw [Cond.before_and, mv hU wc]; rfl, mv hU wc, mv hU wz, hp.2.2.2.1, hp.2.2.2.2⟩)
    (fun m meth c A a g mk Y hp => ⟨hp.1, wtrans hZ Y.warmed, hp.2.1, hp.2.2.1⟩) (fun m meth c A a g mk Y _ hg => hfk.call hZ.alike Y.method hg (by rw [State.frames_setTop' _ Y.here.top, Y.tail]))
    (fun _ _ _ _ ⟨v, L, A, I, h1, h2, h3, h4, h5, h6, h7⟩ => ⟨L, _, _, h6, rfl, rfl, v, h1, A, I, h2, h3, h4, h5, h7⟩)
    (fun m meth c A a g mk v t L k n Y hp _ _ ⟨e1, e2, v', e3, A', I', q1, q2, q3, q4, q5⟩ => by cases e3; subst e1 e2; exact ⟨L, A', I', q1, q2, q3, q4, q5, rfl, rfl, rfl⟩)
theorem W.after {T : State} {vm0 : Vm} {k0 : Nat} {locs : List Loc} {len : Nat} {as' : Array Value} (ok : Ok G K y code Ls.length ret) (hS : K.s.Since vm0 k0) (hk : k0 ≤ T.heap.size) (hN : G.nw = true → K.s.WarmedH vm0) (hF : Fr G.Z.heap.size locs)
    {v : Option Value} {vm₁ : Vm} {B : Pt} (hW1 : (K.s.setVm vm0).WarmedH vm₁) (X' : Stand K.p G.l K.e R ((K.s.setVm vm0).setVm B.U.vm) K.m K.args K.below K.meth K.c B.U B.locs B.cells B.slots) (hS' : (K.s.setVm vm0).Since B.U.vm B.U.heap.size) (hg : T.heap.size ≤ B.U.heap.size)
    (hP : PostC G R' Q' ⟨T.setVm vm₁, locs, cells, slots⟩ as' v B) (stp : Steps K.p.tables K.e K.below (T.setTop (mkF K.m pc Ls.toArray st)) (B.U.setTop (mkF K.m (pc + len) Ls.toArray (v.toList ++ rest))))
    (nx : ∀ v As' Li', Q' v As' Li' → W G K y code ret R Q As' Li' (cells + R'.cells) (slots + R'.slots) (pc + len) Ls (v.toList ++ rest)) : Fini G K R Q (T.setTop (mkF K.m pc Ls.toArray st)) := by
  obtain ⟨U, L, c, n⟩ := B
  obtain ⟨L', A', I', q1, q2, q3, q4, q5, e1, e2, e3⟩ := hP
  dsimp only [Pt.U, Pt.locs, Pt.cells, Pt.slots] at *
  subst e1 e2 e3
  obtain ⟨V, u, h1, h2⟩ := nx v A' I' q1 U U.vm U.heap.size _ ok X' (hS.trans hS' (Nat.le_trans hk hg)) (Nat.le_refl _) (fun nw => State.WarmedH.trans (t := T.setVm vm₁) (State.WarmedH.trans (t := K.s.setVm vm0) (hN nw) hW1) (q5 nw)) q2 q3 (Fr.app hF q4)
  exact ⟨V, u, stp.trans h1, h2⟩
/-- the weight of what lies under a call's arguments -/
abbrev wt (rest : List Value) : Nat := (rest.map fun v => v.category).sum
theorem wt_le (rest : List Value) : 2 * (0 : Nat) + (rest.map fun v => v.category).sum ≤ wt rest := by simp [wt]
theorem W.callS (hC : Ct G [] z code' mL' ret' R' argsL As Li Q') (hd : decode code pc = .ok (.invokestatic idx, 3)) (wl : (Cond.methodLink y.cls idx z).before G.a0 G.Z = true) (ws : (Cond.static z).before G.a0 G.Z = true) (wz : (Cond.initialized z.cls).before G.a0 G.Z = true) (wc : (Cond.code z code' mL' ret').before G.a0 G.Z = true)
    (hy : z.cls ≠ "java/lang/invoke/MethodHandle" ∧ z.cls ≠ "java/lang/invoke/VarHandle") (hp : parseMethodDescriptor z.desc = some sg) (hn : argsL.length = sg.parameters.length) (hst : st = argsL.reverse ++ rest)
    (hf : R'.frames + 1 ≤ R.frames) (hl : wt rest + (mL' + 11) + R'.locals ≤ R.locals) (hc : cells + R'.cells ≤ R.cells) (hs : slots + R'.slots ≤ R.slots)
    (nx : ∀ v As' Li', Q' v As' Li' → W G K y code ret R Q As' Li' (cells + R'.cells) (slots + R'.slots) (pc + 3) Ls (v.toList ++ rest)) : W G K y code ret R Q As Li cells slots pc Ls st := by
  intro T vm0 k0 locs ok X hS hk hN hI hL hF
  have hZ := ok_Z ok hS
  obtain ⟨v, vm₁, B, hW1, X', hS', hg, hP, stp⟩ := callSS X ok.1 (ok_own ok hS) (mvT hZ wl) (mvT hZ ws) (mvT hZ wz) (mvT hZ wc) hy (backC (ok_fk ok) hC hZ wc wz hf hl) (g := mkF K.m pc Ls.toArray st) rfl (by rw [ok.2.2.1]; simp) (argsL := argsL) (rest := rest) (fun sig h => by cases hp.symm.trans h; exact hn) hst (wt_le rest) (hb ok.2.1 hd) (fun vm₁ hw => ⟨rfl, hI, hL.warm hw, hc, hs⟩)
  exact W.after ok hS hk hN hF hW1 X' hS' hg hP stp nx
theorem mvMN {Z s : State} {a0 args : Array Value} {own host : String} {idx : Nat} {x : MethodName} (hZ : Z.Warmed39 s.vm) (w : (Cond.methodLinkNest own idx x host).before a0 Z = true) : (Cond.methodLinkNest own idx x host).before args s = true := (Cond.methodLinkNest_wide hZ w :)
theorem W.callSN {host : String} (hC : Ct G [] z code' mL' ret' R' argsL As Li Q') (hd : decode code pc = .ok (.invokestatic idx, 3)) (wl : (Cond.methodLinkNest y.cls idx z host).before G.a0 G.Z = true) (ws : (Cond.static z).before G.a0 G.Z = true) (wz : (Cond.initialized z.cls).before G.a0 G.Z = true) (wc : (Cond.code z code' mL' ret').before G.a0 G.Z = true)
    (hy : z.cls ≠ "java/lang/invoke/MethodHandle" ∧ z.cls ≠ "java/lang/invoke/VarHandle") (hp : parseMethodDescriptor z.desc = some sg) (hn : argsL.length = sg.parameters.length) (hst : st = argsL.reverse ++ rest)
    (hf : R'.frames + 1 ≤ R.frames) (hl : wt rest + (mL' + 11) + R'.locals ≤ R.locals) (hc : cells + R'.cells ≤ R.cells) (hs : slots + R'.slots ≤ R.slots)
    (nx : ∀ v As' Li', Q' v As' Li' → W G K y code ret R Q As' Li' (cells + R'.cells) (slots + R'.slots) (pc + 3) Ls (v.toList ++ rest)) : W G K y code ret R Q As Li cells slots pc Ls st := by
  intro T vm0 k0 locs ok X hS hk hN hI hL hF
  have hZ := ok_Z ok hS
  obtain ⟨v, vm₁, B, hW1, X', hS', hg, hP, stp⟩ := callSNS X ok.1 (ok_own ok hS) (mvMN hZ wl) (mvT hZ ws) (mvT hZ wz) (mvT hZ wc) hy (backC (ok_fk ok) hC hZ wc wz hf hl) (g := mkF K.m pc Ls.toArray st) rfl (by rw [ok.2.2.1]; simp) (argsL := argsL) (rest := rest) (fun sig h => by cases hp.symm.trans h; exact hn) hst (wt_le rest) (hb ok.2.1 hd) (fun vm₁ hw => ⟨rfl, hI, hL.warm hw, hc, hs⟩)
  exact W.after ok hS hk hN hF hW1 X' hS' hg hP stp nx
variable {a : Addr} {C : String}
/-- a constructor -/
theorem W.callI (hC : Ct G [] z code' mL' none R' (.ref a :: argsL) As Li Q') (hd : decode code pc = .ok (.invokespecial idx, 3)) (h1 : z.name = "<init>") (wl : (Cond.methodLink y.cls idx z).before G.a0 G.Z = true) (wi : (Cond.instanceMethod z).before G.a0 G.Z = true) (wz : (Cond.initialized z.cls).before G.a0 G.Z = true) (wc : (Cond.code z code' mL' none).before G.a0 G.Z = true)
    (hy : z.cls ≠ "java/lang/invoke/MethodHandle" ∧ z.cls ≠ "java/lang/invoke/VarHandle") (hp : parseMethodDescriptor z.desc = some sg) (hn : argsL.length = sg.parameters.length) (hst : st = argsL.reverse ++ .ref a :: rest)
    (hf : R'.frames + 1 ≤ R.frames) (hl : wt rest + (mL' + 11) + R'.locals ≤ R.locals) (hc : cells + R'.cells ≤ R.cells) (hs : slots + R'.slots ≤ R.slots)
    (nx : ∀ v As' Li', Q' v As' Li' → W G K y code ret R Q As' Li' (cells + R'.cells) (slots + R'.slots) (pc + 3) Ls (v.toList ++ rest)) : W G K y code ret R Q As Li cells slots pc Ls st := by
  intro T vm0 k0 locs ok X hS hk hN hI hL hF
  have hZ := ok_Z ok hS
  obtain ⟨v, vm₁, B, hW1, X', hS', hg, hP, stp⟩ := X.specialBackS ok.1 h1 (ok_own ok hS) (mvT hZ wl) (mvT hZ wi) (mvT hZ wc) hy (backC (ok_fk ok) hC hZ wc wz hf hl) (g := mkF K.m pc Ls.toArray st) rfl (by rw [ok.2.2.1]; simp) (Steps.refl _) (a := a) (argsL := argsL) (rest := rest) (fun sig h => by cases hp.symm.trans h; exact hn) hst (wt_le rest) (hb ok.2.1 hd) (fun vm₁ hw => ⟨rfl, hI, hL.warm hw, hc, hs⟩)
  exact W.after ok hS hk hN hF hW1 X' hS' hg hP stp nx
theorem W.callIN {host : String} (hC : Ct G [] z code' mL' none R' (.ref a :: argsL) As Li Q') (hd : decode code pc = .ok (.invokespecial idx, 3)) (h1 : z.name = "<init>") (wl : (Cond.methodLinkNest y.cls idx z host).before G.a0 G.Z = true) (wi : (Cond.instanceMethod z).before G.a0 G.Z = true) (wz : (Cond.initialized z.cls).before G.a0 G.Z = true) (wc : (Cond.code z code' mL' none).before G.a0 G.Z = true)
    (hy : z.cls ≠ "java/lang/invoke/MethodHandle" ∧ z.cls ≠ "java/lang/invoke/VarHandle") (hp : parseMethodDescriptor z.desc = some sg) (hn : argsL.length = sg.parameters.length) (hst : st = argsL.reverse ++ .ref a :: rest)
    (hf : R'.frames + 1 ≤ R.frames) (hl : wt rest + (mL' + 11) + R'.locals ≤ R.locals) (hc : cells + R'.cells ≤ R.cells) (hs : slots + R'.slots ≤ R.slots)
    (nx : ∀ v As' Li', Q' v As' Li' → W G K y code ret R Q As' Li' (cells + R'.cells) (slots + R'.slots) (pc + 3) Ls (v.toList ++ rest)) : W G K y code ret R Q As Li cells slots pc Ls st := by
  intro T vm0 k0 locs ok X hS hk hN hI hL hF
  have hZ := ok_Z ok hS
  obtain ⟨v, vm₁, B, hW1, X', hS', hg, hP, stp⟩ := X.specialBackNestS ok.1 h1 (ok_own ok hS) (mvMN hZ wl) (mvT hZ wi) (mvT hZ wc) hy (backC (ok_fk ok) hC hZ wc wz hf hl) (g := mkF K.m pc Ls.toArray st) rfl (by rw [ok.2.2.1]; simp) (Steps.refl _) (a := a) (argsL := argsL) (rest := rest) (fun sig h => by cases hp.symm.trans h; exact hn) hst (wt_le rest) (hb ok.2.1 hd) (fun vm₁ hw => ⟨rfl, hI, hL.warm hw, hc, hs⟩)
  exact W.after ok hS hk hN hF hW1 X' hS' hg hP stp nx
/-- java.lang.Object's -/
theorem W.callO (hd : decode code pc = .ok (.invokespecial idx, 3)) (wl : (Cond.methodLink y.cls idx Lib.objectInit).before G.a0 G.Z = true) (wi : (Cond.instanceMethod Lib.objectInit).before G.a0 G.Z = true) (wc : (Cond.code Lib.objectInit ⟨#[0xb1]⟩ 1 none).before G.a0 G.Z = true)
    (hf : 1 ≤ R.frames) (hl : wt st + 12 ≤ R.locals) (nx : W G K y code ret R Q As Li cells slots (pc + 3) Ls st) : W G K y code ret R Q As Li cells slots pc Ls (.ref a :: st) := by
  intro T vm0 k0 locs ok X hS hk hN hI hL hF
  obtain ⟨T', X', e', st'⟩ := initO X ok.1 (ok_Z ok hS) (ok_own ok hS) wl wi wc rfl (g := mkF K.m pc Ls.toArray (.ref a :: st)) rfl (by rw [ok.2.2.1]; simp) rfl (hb ok.2.1 hd) hf (wt_le st) hl
  obtain ⟨U, u, h1, h2⟩ := nx T' vm0 k0 locs ok X' hS (by rw [e']; exact hk) hN (by rw [e']; exact hI) hL hF
  exact ⟨U, u, st' _ h1, h2⟩
/-- an instance method that the receiver's class selects; the entry's class x declares it -/
theorem W.callV {x : MethodName} (hC : Ct G [] z code' mL' ret' R' (.ref a :: argsL) As Li Q') (hd : decode code pc = .ok (.invokevirtual idx, 3)) (hm : Is G As a C) (wl : (Cond.methodLink y.cls idx x).before G.a0 G.Z = true) (wd : (Cond.declares x).before G.a0 G.Z = true) (nf : ∀ s : State, G.Z.Warmed39 s.vm → NotFace s x) (wsel : (Cond.selects C x z).before G.a0 G.Z = true)
    (wi : (Cond.instanceMethod z).before G.a0 G.Z = true) (wz : (Cond.initialized z.cls).before G.a0 G.Z = true) (wc : (Cond.code z code' mL' ret').before G.a0 G.Z = true)
    (hy : x.cls ≠ "java/lang/invoke/MethodHandle" ∧ x.cls ≠ "java/lang/invoke/VarHandle") (hp : parseMethodDescriptor x.desc = some sg) (hn : argsL.length = sg.parameters.length) (hst : st = argsL.reverse ++ .ref a :: rest)
    (hf : R'.frames + 1 ≤ R.frames) (hl : wt rest + (mL' + 11) + R'.locals ≤ R.locals) (hc : cells + R'.cells ≤ R.cells) (hs : slots + R'.slots ≤ R.slots)
    (nx : ∀ v As' Li', Q' v As' Li' → W G K y code ret R Q As' Li' (cells + R'.cells) (slots + R'.slots) (pc + 3) Ls (v.toList ++ rest)) : W G K y code ret R Q As Li cells slots pc Ls st := by
  intro T vm0 k0 locs ok X hS hk hN hI hL hF
  have hZ := ok_Z ok hS
  obtain ⟨cB, kB, q1, q2, q3⟩ := isOf (T := T) hZ rfl (hm.exa hI)
  obtain ⟨v, vm₁, B, hW1, X', hS', hg, hP, stp⟩ := X.virtualBackS ok.1 (ok_own ok hS) (mvT hZ wl) (mvT hZ wd) (nf _ hZ) (mvT hZ wsel) (mvT hZ wi) hy (backC (ok_fk ok) hC hZ wc wz hf hl) q1 q3 (g := mkF K.m pc Ls.toArray st) rfl (by rw [ok.2.2.1]; simp) (Steps.refl _) (argsL := argsL) (rest := rest) (fun sig h => by cases hp.symm.trans h; exact hn) hst (wt_le rest) (hb ok.2.1 hd) (fun vm₁ hw => ⟨rfl, hI, hL.warm hw, hc, hs⟩)
  exact W.after ok hS hk hN hF hW1 X' hS' hg hP stp nx
theorem nf_sel {x : MethodName} (w : (Cond.selects C x x).before G.a0 G.Z = true) : ∀ s : State, G.Z.Warmed39 s.vm → NotFace s x := fun s hZ => notFace_of_selects (args := #[]) (mvT hZ w)
theorem nf_sup {x : MethodName} {S : String} (w : (Cond.superclass x.cls S).before G.a0 G.Z = true) : ∀ s : State, G.Z.Warmed39 s.vm → NotFace s x := fun s hZ => nf_super (args := #[]) (mvT hZ w)
theorem nf_tp {x : MethodName} (w : (Cond.noSuperclass x.cls).before G.a0 G.Z = true) : ∀ s : State, G.Z.Warmed39 s.vm → NotFace s x := fun s hZ => nf_top (args := #[]) (mvT hZ w)
/-- .. declared above the entry's class -/
theorem W.callU {x : MethodName} {owner : String} (hC : Ct G [] z code' mL' ret' R' (.ref a :: argsL) As Li Q') (hd : decode code pc = .ok (.invokevirtual idx, 3)) (hm : Is G As a C) (wl : (Cond.methodLink y.cls idx x).before G.a0 G.Z = true) (wsm : (Cond.sameMethod x.cls owner x.name x.desc).before G.a0 G.Z = true) (wd : (Cond.declares ⟨owner, x.name, x.desc⟩).before G.a0 G.Z = true) (ho : owner ≠ "java/lang/invoke/MethodHandle" ∧ owner ≠ "java/lang/invoke/VarHandle") (wsel : (Cond.selects C x z).before G.a0 G.Z = true)
    (wi : (Cond.instanceMethod z).before G.a0 G.Z = true) (wz : (Cond.initialized z.cls).before G.a0 G.Z = true) (wc : (Cond.code z code' mL' ret').before G.a0 G.Z = true)
    (hp : parseMethodDescriptor x.desc = some sg) (hn : argsL.length = sg.parameters.length) (hst : st = argsL.reverse ++ .ref a :: rest)
    (hf : R'.frames + 1 ≤ R.frames) (hl : wt rest + (mL' + 11) + R'.locals ≤ R.locals) (hc : cells + R'.cells ≤ R.cells) (hs : slots + R'.slots ≤ R.slots)
    (nx : ∀ v As' Li', Q' v As' Li' → W G K y code ret R Q As' Li' (cells + R'.cells) (slots + R'.slots) (pc + 3) Ls (v.toList ++ rest)) : W G K y code ret R Q As Li cells slots pc Ls st := by
  intro T vm0 k0 locs ok X hS hk hN hI hL hF
  have hZ := ok_Z ok hS
  obtain ⟨cB, kB, q1, q2, q3⟩ := isOf (T := T) hZ rfl (hm.exa hI)
  obtain ⟨v, vm₁, B, hW1, X', hS', hg, hP, stp⟩ := X.virtualBackUpS ok.1 (ok_own ok hS) (mvT hZ wl) (mvT hZ wsm) (mvT hZ wd) ho (mvT hZ wsel) (mvT hZ wi) (backC (ok_fk ok) hC hZ wc wz hf hl) q1 q3 (g := mkF K.m pc Ls.toArray st) rfl (by rw [ok.2.2.1]; simp) (Steps.refl _) (argsL := argsL) (rest := rest) (fun sig h => by cases hp.symm.trans h; exact hn) hst (wt_le rest) (hb ok.2.1 hd) (fun vm₁ hw => ⟨rfl, hI, hL.warm hw, hc, hs⟩)
  exact W.after ok hS hk hN hF hW1 X' hS' hg hP stp nx
/-- through an interface -/
theorem W.callF {x : MethodName} {cnt : Nat} (hC : Ct G [] z code' mL' ret' R' (.ref a :: argsL) As Li Q') (hd : decode code pc = .ok (.invokeinterface idx cnt, 5)) (hm : Is G As a C) (wl : (Cond.methodLink y.cls idx x).before G.a0 G.Z = true) (wd : (Cond.declares x).before G.a0 G.Z = true) (wf : (Cond.interfaceMethod x.cls x.cls x.name x.desc).before G.a0 G.Z = true) (wsel : (Cond.selects C x z).before G.a0 G.Z = true)
    (wi : (Cond.instanceMethod z).before G.a0 G.Z = true) (wp : (Cond.publicMethod z).before G.a0 G.Z = true) (wu : (Cond.unhidden C x.name x.desc).before G.a0 G.Z = true) (wk : (Cond.castable C x.cls).before G.a0 G.Z = true) (wz : (Cond.initialized z.cls).before G.a0 G.Z = true) (wc : (Cond.code z code' mL' ret').before G.a0 G.Z = true)
    (hy : x.cls ≠ "java/lang/invoke/MethodHandle" ∧ x.cls ≠ "java/lang/invoke/VarHandle") (hfa : ((Cond.interfaceMethod x.cls x.cls x.name x.desc).onTables && (Cond.interfaceMethod x.cls x.cls x.name x.desc).keepsFace) = true) (hp : parseMethodDescriptor x.desc = some sg) (hn : argsL.length = sg.parameters.length) (hst : st = argsL.reverse ++ .ref a :: rest)
    (hf : R'.frames + 1 ≤ R.frames) (hl : wt rest + (mL' + 11) + R'.locals ≤ R.locals) (hc : cells + R'.cells ≤ R.cells) (hs : slots + R'.slots ≤ R.slots)
    (nx : ∀ v As' Li', Q' v As' Li' → W G K y code ret R Q As' Li' (cells + R'.cells) (slots + R'.slots) (pc + 5) Ls (v.toList ++ rest)) : W G K y code ret R Q As Li cells slots pc Ls st := by
  intro T vm0 k0 locs ok X hS hk hN hI hL hF
  have hZ := ok_Z ok hS
  obtain ⟨cB, kB, q1, q2, q3⟩ := isOf (T := T) hZ rfl (hm.exa hI)
  obtain ⟨v, vm₁, B, hW1, X', hS', hg, hP, stp⟩ := X.interfaceBackS ok.1 (ok_own ok hS) (mvT hZ wl) (mvT hZ wd) (mvT hZ wf hfa) (mvT hZ wsel) (mvT hZ wi) (mvT hZ wp) (mvT hZ wu) (mvT hZ wk) hy (backC (ok_fk ok) hC hZ wc wz hf hl) q1 q2 q3 (g := mkF K.m pc Ls.toArray st) rfl (by rw [ok.2.2.1]; simp) (Steps.refl _) (argsL := argsL) (rest := rest) (fun sig h => by cases hp.symm.trans h; exact hn) hst (wt_le rest) (hb ok.2.1 hd) (fun vm₁ hw => ⟨rfl, hI, hL.warm hw, hc, hs⟩)
  exact W.after ok hS hk hN hF hW1 X' hS' hg hP stp nx
/-- a private method by invokevirtual -/
theorem W.callP (hC : Ct G [] z code' mL' ret' R' (.ref a :: argsL) As Li Q') (hd : decode code pc = .ok (.invokevirtual idx, 3)) (hm : Is G As a C) (wl : (Cond.methodLink y.cls idx z).before G.a0 G.Z = true) (wi : (Cond.instanceMethod z).before G.a0 G.Z = true) (wsel : (Cond.selects z.cls z z).before G.a0 G.Z = true) (wp : (Cond.privateMethod z).before G.a0 G.Z = true) (wz : (Cond.initialized z.cls).before G.a0 G.Z = true) (wc : (Cond.code z code' mL' ret').before G.a0 G.Z = true)
    (hy : z.cls ≠ "java/lang/invoke/MethodHandle" ∧ z.cls ≠ "java/lang/invoke/VarHandle") (hp : parseMethodDescriptor z.desc = some sg) (hn : argsL.length = sg.parameters.length) (hst : st = argsL.reverse ++ .ref a :: rest)
    (hf : R'.frames + 1 ≤ R.frames) (hl : wt rest + (mL' + 11) + R'.locals ≤ R.locals) (hc : cells + R'.cells ≤ R.cells) (hs : slots + R'.slots ≤ R.slots)
    (nx : ∀ v As' Li', Q' v As' Li' → W G K y code ret R Q As' Li' (cells + R'.cells) (slots + R'.slots) (pc + 3) Ls (v.toList ++ rest)) : W G K y code ret R Q As Li cells slots pc Ls st := by
  intro T vm0 k0 locs ok X hS hk hN hI hL hF
  have hZ := ok_Z ok hS
  obtain ⟨cl, q1, q2⟩ := (hm.exa hI).cell
  obtain ⟨v, vm₁, B, hW1, X', hS', hg, hP, stp⟩ := X.privateBackS ok.1 (ok_own ok hS) (mvT hZ wl) (mvT hZ wi) (mvT hZ wsel) (Cond.privateMethod_at (mvP hZ wp (args := #[]))) (mvT hZ wc) hy (backC (ok_fk ok) hC hZ wc wz hf hl) (g := mkF K.m pc Ls.toArray st) rfl (by rw [ok.2.2.1]; simp) (Steps.refl _) (a := a) q1 q2 (argsL := argsL) (rest := rest) (fun sig h => by cases hp.symm.trans h; exact hn) hst (wt_le rest) (hb ok.2.1 hd) (fun vm₁ hw => ⟨rfl, hI, hL.warm hw, hc, hs⟩)
  exact W.after ok hS hk hN hF hW1 X' hS' hg hP stp nx
/-- super.m(..) -/
theorem W.callX (hC : Ct G [] z code' mL' ret' R' (.ref a :: argsL) As Li Q') (hd : decode code pc = .ok (.invokespecial idx, 3)) (hm : Is G As a C) (wl : (Cond.methodLink y.cls idx z).before G.a0 G.Z = true) (wsm : (Cond.sameMethod z.cls z.cls z.name z.desc).before G.a0 G.Z = true) (wi : (Cond.instanceMethod z).before G.a0 G.Z = true) (wsup : (Cond.superclass y.cls z.cls).before G.a0 G.Z = true) (hni : z.name ≠ "<init>") (wz : (Cond.initialized z.cls).before G.a0 G.Z = true) (wc : (Cond.code z code' mL' ret').before G.a0 G.Z = true)
    (hp : parseMethodDescriptor z.desc = some sg) (hn : argsL.length = sg.parameters.length) (hst : st = argsL.reverse ++ .ref a :: rest)
    (hf : R'.frames + 1 ≤ R.frames) (hl : wt rest + (mL' + 11) + R'.locals ≤ R.locals) (hc : cells + R'.cells ≤ R.cells) (hs : slots + R'.slots ≤ R.slots)
    (nx : ∀ v As' Li', Q' v As' Li' → W G K y code ret R Q As' Li' (cells + R'.cells) (slots + R'.slots) (pc + 3) Ls (v.toList ++ rest)) : W G K y code ret R Q As Li cells slots pc Ls st := by
  intro T vm0 k0 locs ok X hS hk hN hI hL hF
  have hZ := ok_Z ok hS
  obtain ⟨v, vm₁, B, hW1, X', hS', hg, hP, stp⟩ := superBackS X ok.1 hZ (ok_own ok hS) wl wsm wi wsup hni (backC (ok_fk ok) hC hZ wc wz hf hl) rfl (Ins.self (hm.exa hI)) (g := mkF K.m pc Ls.toArray st) rfl (by rw [ok.2.2.1]; simp) wc (argsL := argsL) (rest := rest) (fun sig h => by cases hp.symm.trans h; exact hn) hst (wt_le rest) (hb ok.2.1 hd) (fun vm₁ hw => ⟨rfl, hI, hL.warm hw, hc, hs⟩)
  exact W.after ok hS hk hN hF hW1 X' hS' hg hP stp nx
end Calls
end Jvm.Own
namespace Jvm.Own
open Sem ClassFile Op Lib Jvm.Stand Jvm.Free Jvm.LawKit Jvm.RoadKit
/-! ### the case's start -/
theorem Inv.start (l : Launch) (s : State) (a0 : Array Value) (b : Bool) : Inv (l, s, a0, b) [] s.heap := ⟨⟨Nat.le_refl _, fun _ _ q => q⟩, List.Pairwise.nil, fun _ h => nomatch h⟩
theorem LI.start (s : State) : LI s s.vm [] := ⟨IB.start, (fun _ h => nomatch h), fun _ h => nomatch h⟩
end Jvm.Own
namespace Jvm.Own
open Sem ClassFile Op Lib Bundle Jvm.Stand Jvm.Free Jvm.Free.SB Jvm.Free.SBG Jvm.LawKit Jvm.RoadKit
/-! ### String constants -/
theorem own_fold (xs : List Cell) : ∀ n : Nat, xs.foldl (fun n c => n + c.slots.size) n = n + (xs.map fun c => c.slots.size).sum := by
  induction xs with
  | nil => intro n; simp
  | cons x xs ih => intro n; simp only [List.foldl_cons, List.map_cons, List.sum_cons]; rw [ih]; omega
theorem own_foldA (h : Heap) : h.foldl (fun n c => n + c.slots.size) 0 = (h.toList.map fun c => c.slots.size).sum := by
  rw [← Array.foldl_toList, own_fold]; omega
theorem own_split {h h' : Heap} (E : Ext h h') : h'.toList = h.toList ++ h'.toList.drop h.size := by
  refine List.ext_getElem? fun i => ?_
  by_cases hi : i < h.size
  · rw [List.getElem?_append_left (by simpa using hi), Array.getElem?_toList, Array.getElem?_toList, Array.getElem?_eq_getElem hi]
    exact E.2 i _ (Array.getElem?_eq_getElem hi)
  · rw [List.getElem?_append_right (by simpa using Nat.le_of_not_lt hi), List.getElem?_drop]
    simp only [Array.length_toList]
    congr 1
    omega
theorem own_sums {h h' : Heap} (E : Ext h h') : (h'.toList.map fun c => c.slots.size).sum = (h.toList.map fun c => c.slots.size).sum + ((h'.toList.drop h.size).map fun c => c.slots.size).sum := by
  conv => lhs; rw [own_split E]
  simp
/-- the invocation, told as if it had begun at the case's own heap -/
abbrev rebS0 (G : Gx) (s : State) (vm0 : Vm) : State := { s with vm := vm0, heap := G.Z.heap, slotsUsed := (G.Z.heap.toList.map fun c => c.slots.size).sum }
theorem rebase {G : Gx} {p : Program} {l : Launch} {e : Env} {R : Room} {s : State} {vm0 : Vm} {m : MethodId} {args : Array Value} {below : List Frame} {meth : Method} {c : Code} {T : State} {locs : List Loc} {cells slots : Nat}
    (X : Stand p l e R (s.setVm vm0) m args below meth c T locs cells slots) (E : Ext G.Z.heap T.heap) (hc : cells ≤ R.cells) (hs : slots ≤ R.slots) :
    Stand p l e { R with cells := (T.heap.size - G.Z.heap.size) + (R.cells - cells), slots := ((T.heap.toList.drop G.Z.heap.size).map fun c => c.slots.size).sum + (R.slots - slots) } (rebS0 G s vm0) m args below meth c T [] (T.heap.size - G.Z.heap.size) ((T.heap.toList.drop G.Z.heap.size).map fun c => c.slots.size).sum := by
  have bk : T.slotsUsed = (T.heap.toList.map fun c => c.slots.size).sum := by
    have h := X.book
    simp only [State.slotsTrue, beq_iff_eq] at h
    rw [h]; exact own_foldA _
  have sm := own_sums E
  have h1 := X.heapSize
  have h2 := X.used
  have hE := E.1
  refine ⟨X.admits, X.cas, X.clock, X.frames, ?_, X.hears, X.method, X.code, X.here, X.tail, X.warmed, X.limits, X.bytes, X.same.1, hE, ?_, ?_, Nat.le_refl _, fun a c h => ⟨c, E.2 a c h, rfl, rfl, fun _ _ => rfl⟩⟩
  · have h := X.room
    simp only [State.hasRoom, Bool.and_eq_true, decide_eq_true_eq] at h ⊢
    obtain ⟨⟨⟨⟨r1, r2⟩, r3⟩, r4⟩, r5⟩ := h
    have r3' : s.heap.size + R.cells ≤ e.platform.maxCells := r3
    have r4' : s.slotsUsed + R.slots ≤ e.platform.maxSlots := r4
    have h1' : T.heap.size ≤ s.heap.size + cells := h1
    have h2' : T.slotsUsed ≤ s.slotsUsed + slots := h2
    refine ⟨⟨⟨⟨r1, r2⟩, ?_⟩, ?_⟩, ?_⟩
    · show G.Z.heap.size + ((T.heap.size - G.Z.heap.size) + (R.cells - cells)) ≤ e.platform.maxCells
      omega
    · show (G.Z.heap.toList.map fun c => c.slots.size).sum + (((T.heap.toList.drop G.Z.heap.size).map fun c => c.slots.size).sum + (R.slots - slots)) ≤ e.platform.maxSlots
      omega
    · show (_ == _) = true
      rw [beq_iff_eq]
      exact (own_foldA _).symm
  · show T.heap.size ≤ G.Z.heap.size + (T.heap.size - G.Z.heap.size)
    omega
  · show T.slotsUsed = (G.Z.heap.toList.map fun c => c.slots.size).sum + _
    rw [bk, sm]; rfl
def litF : List Fd := [("java/lang/String", "value", "[B"), ("java/lang/String", "coder", "B")]
section Laws
variable {G : Gx} {K : Kx} {y : MethodName} {code : ByteArray} {ret : Option FieldType} {R : Room} {Q : Qx} {As As' : List Ent} {Li Li' : List LitE} {cells slots pc pc' : Nat} {Ls Ls' : List Slot} {st st' : List Value} {idx : Nat} {a : Addr}
theorem W.ldcA {text : String} (hd : decode code pc = .ok (.ldc idx, 2)) (w : (Cond.stringLink y.cls idx text).before G.a0 G.Z = true) (hl : (y.cls, idx, text, a) ∈ Li)
    (nx : W G K y code ret R Q As Li cells slots (pc + 2) Ls (.ref a :: st)) : W G K y code ret R Q As Li cells slots pc Ls st := by
  intro T vm0 k0 locs ok X hS hk hN hI hL hF
  obtain ⟨U, u, h1, h2⟩ := nx T vm0 k0 locs ok X hS hk hN hI hL hF
  exact ⟨U, u, ldcAgain X ok.1 (ok_Z ok hS) (ok_own ok hS) w (hL.2.1 _ hl) (g := mkF K.m pc Ls.toArray st) rfl (hb ok.2.1 hd) _ h1, h2⟩
/-- where an interned text of the walk's lies -/
theorem LI.where_ {Z : State} {vm : Vm} {Li : List LitE} {text : String} (L : LI Z vm Li) {units : Array UInt16} {a : Addr} (hu : utf16ToString? units = some text) (hf : vm.interned.find? (fun p => p.1 == units) = some (units, a)) :
    (∃ r ∈ Li, r.2.2.1 = text ∧ r.2.2.2 = a) ∨ Z.vm.interned.find? (fun p => p.1 == units) = some (units, a) := by
  by_cases hm : text ∈ Li.map fun q => q.2.2.1
  · obtain ⟨q, hq, e⟩ := List.mem_map.mp hm
    obtain rfl : q.2.2.1 = text := e
    exact L.2.2 q hq units a hu hf
  · obtain ⟨more, e, hx⟩ := L.1
    rw [e, Array.find?_append] at hf
    cases hs : Z.vm.interned.find? (fun p => p.1 == units) with
    | some pr => rw [hs] at hf; exact Or.inr (by simpa using hf)
    | none =>
      rw [hs, Option.none_or] at hf
      obtain ⟨t, ht, hd⟩ := hx _ (Array.mem_of_find?_eq_some hf)
      cases hu.symm.trans hd
      exact absurd ht hm
/-- the constants of that text that the walk has loaded: each is here, and its signs are vs -/
def LitG (As : List Ent) (Li : List LitE) (text : String) (vs : List Value) : Prop := ∀ q ∈ Li, q.2.2.1 = text → ∃ b, (q.2.2.2, false, obj "java/lang/String" litF [.ref b, .int 0]) ∈ As ∧ (b, false, arr .byte vs) ∈ As
/-- a String as the VM lays one, told in the walk's words -/
theorem sl_des {G : Gx} {U : State} {q : SQ} {cS : ClassId} {units : Array UInt16} {text : String} {vs : List Value} (hal : G.Z.vm.Alike U.vm) (S : Sl q cS U) (hk : ∃ kS : Class, U.vm.classes[cS]? = some kS ∧ kS.kind = .ordinary ∧ q.sC.slots.size = kS.instanceTypes.size)
    (hB' : U.vm.findClass "[B" = some q.SA.cls) (hbyt : q.SA.slots = stringBytes units) (htext : utf16ToString? units = some text) (ht : (∀ c ∈ text.toList, c.toNat < 256) ∧ text.toList.map (fun c => Value.int (Jvm.Lit.byteI c.toNat.toUInt16)) = vs) :
    Des G.Z G.a0 U.heap q.sa false (obj "java/lang/String" litF [.ref q.sd, .int 0]) ∧ Des G.Z G.a0 U.heap q.sd false (arr .byte vs) := by
  obtain ⟨⟨s1, s2, s3, ⟨cv, kv, iv, s4, s4'⟩, ⟨cc, kc, ic, s5, s5'⟩, s6, s7, s8, s9, s10, s11, s12, s13, s14, s15, s16⟩, hfS, hcS⟩ := S
  obtain ⟨kS, k1, k2, k3⟩ := hk
  obtain ⟨kv', z4⟩ := ff_back hal s4
  obtain ⟨kc', z5⟩ := ff_back hal s5
  have hfZ : G.Z.vm.findClass "java/lang/String" = some q.sC.cls := by rw [← hal.findClass, hcS]; exact hfS
  obtain ⟨kz, hkz, -⟩ := Vm.findClass_spec hfZ
  obtain ⟨kz', hkz', ekz⟩ := hal.2.2 _ _ hkz
  have ekS : kz' = kS := Option.some.inj (hkz'.symm.trans (hcS ▸ k1))
  have hBZ : G.Z.vm.findClass "[B" = some q.SA.cls := by rw [← hal.findClass]; exact hB'
  obtain ⟨kb, hkb, -⟩ := Vm.findClass_spec hBZ
  obtain ⟨kb', hkb', ekb⟩ := hal.2.2 _ _ hkb
  obtain ⟨hst, k9, hk9, comp, hkind9⟩ := s11
  have ek9 : k9 = kb' := Option.some.inj (hk9.symm.trans hkb')
  have hAZ : G.Z.isArrayOf q.SA .byte := ⟨hst, kb, hkb, comp, by rw [ek9, ekb] at hkind9; exact hkind9⟩
  have hlat := Jvm.ClassFile.lat_of_text htext ht.1
  have eu : vs = units.toList.map fun u => Value.int (Jvm.Lit.byteI u) := by rw [← ht.2, Jvm.ClassFile.units_of_text htext ht.1, List.map_map]; rfl
  have hsl0 : q.SA.slots = units.map fun u => Value.int (Jvm.Lit.byteI u) := by rw [hbyt, SBG.stringBytes_lat hlat]; rfl
  have hsl : q.SA.slots.toList = vs := by rw [hsl0, eu, Array.toList_map]
  refine ⟨⟨⟨q.sC, kz, s1, hfZ, hkz, s3, fun ho => by rw [k3, ← ekS, ekz]⟩, rfl, fun i f v hf hv => ?_, fun q => nomatch q⟩, ?_⟩
  · match i, hf, hv with
    | 0, hf, hv => cases hf; cases hv; exact ⟨q.sC, cv, kv', iv, q.fSV, s1, z4, s6, s2, s3, by rw [← hal.assignable]; exact s4', s8⟩
    | 1, hf, hv => cases hf; cases hv; exact ⟨q.sC, cc, kc', ic, q.fSC, s1, z5, s7, s2, s3, by rw [← hal.assignable]; exact s5', s9⟩
  · refine ⟨q.SA, ⟨s10, hAZ, s12⟩, hsl, ?_, fun v hv => ?_, fun q => nomatch q⟩
    · rw [← hsl]; simpa [s13] using s14
    · rw [← hsl] at hv
      obtain ⟨i, hi, rfl⟩ := List.getElem_of_mem hv
      have hi' : i < q.SA.slots.size := by simpa using hi
      have := s16 i hi'
      rw [Array.getD_eq_getD_getElem?, Array.getElem?_eq_getElem hi'] at this
      simpa using this
/-- two cells that the walk doesn't own come to its list -/
theorem Inv.two {G : Gx} {As : List Ent} {h : Heap} {a b : Addr} {sc sc' : SC} (I : Inv G As h) (D1 : Des G.Z G.a0 h a false sc) (D2 : Des G.Z G.a0 h b false sc') (far : ∀ e ∈ As, e.2.1 = true → a ≠ e.1 ∧ b ≠ e.1) : Inv G ((a, false, sc) :: (b, false, sc') :: As) h := by
  refine ⟨I.1, ?_, fun e he => ?_⟩
  · refine List.pairwise_cons.mpr ⟨fun p hp hw => ?_, List.pairwise_cons.mpr ⟨fun p hp hw => ?_, I.2.1⟩⟩
    · rcases List.mem_cons.mp hp with rfl | hp
      · rcases hw with hw | hw <;> cases hw
      · obtain ⟨e, he, rfl⟩ := List.mem_map.mp hp
        rcases hw with hw | hw
        · cases hw
        · exact (far e he hw).1
    · obtain ⟨e, he, rfl⟩ := List.mem_map.mp hp
      rcases hw with hw | hw
      · cases hw
      · exact (far e he hw).2
  · rcases List.mem_cons.mp he with rfl | he
    · exact ⟨(fun q => nomatch q), D1⟩
    · rcases List.mem_cons.mp he with rfl | he
      · exact ⟨(fun q => nomatch q), D2⟩
      · exact I.2.2 e he
/-- a frozen cell of the list is none that the walk writes -/
theorem Inv.farF {G : Gx} {As : List Ent} {h : Heap} {a : Addr} {sc : SC} (I : Inv G As h) (hm : (a, false, sc) ∈ As) : ∀ e ∈ As, e.2.1 = true → a ≠ e.1 := fun e he hw => by
  obtain ⟨i, hi, ei⟩ := List.getElem_of_mem hm
  obtain ⟨j, hj, ej⟩ := List.getElem_of_mem he
  obtain ⟨ea, ew, es⟩ := e
  simp only at hw
  subst hw
  rcases Nat.lt_trichotomy i j with q | q | q
  · exact I.ne (by rw [List.getElem?_eq_getElem hi, ei]) (by rw [List.getElem?_eq_getElem hj, ej]) q (Or.inr rfl)
  · subst q; rw [ei] at ej; cases ej
  · exact (I.ne (by rw [List.getElem?_eq_getElem hj, ej]) (by rw [List.getElem?_eq_getElem hi, ei]) q (Or.inl rfl)).symm
/-- 'ldc' of a String constant: whatever has been loaded before, from whatever entry -/
theorem W.ldcG {text : String} {vs : List Value} {n : Nat} (hnw : G.nw = false) (hd : decode code pc = .ok (.ldc idx, 2)) (w : (Cond.stringLink y.cls idx text).before G.a0 G.Z = true) (wS : ∀ a ∈ Bundle.stringAtoms, a.before G.a0 G.Z = true)
    (hh : Jvm.Lit.constHeld G.Z y.cls idx) (hcw : Jvm.Lit.compactW.before G.a0 G.Z = true) (hlit : LitG As Li text vs) (ht : (∀ c ∈ text.toList, c.toNat < 256) ∧ text.toList.map (fun c => Value.int (Jvm.Lit.byteI c.toNat.toUInt16)) = vs)
    (hn : 4 * text.toList.length ≤ n) (hbig : n ≤ 536870912) (hc : cells + 2 ≤ R.cells) (hs : slots + (n + 4) ≤ R.slots)
    (nx : ∀ a b, W G K y code ret R Q ((a, false, obj "java/lang/String" litF [.ref b, .int 0]) :: (b, false, arr .byte vs) :: As) ((y.cls, idx, text, a) :: Li) (cells + 2) (slots + (n + 4)) (pc + 2) Ls (.ref a :: st)) : W G K y code ret R Q As Li cells slots pc Ls st := by
  intro T vmA kA locs ok XA hSA hkA hN hI hLA hF
  -- the tables as they stand here are the base
  have hZA : G.Z.Warmed39 vmA := ok_Z ok hSA
  have X : Stand K.p G.l K.e R (K.s.setVm T.vm) K.m K.args K.below K.meth K.c T locs cells slots := XA.retabled XA.warmed.wide
  have hS : K.s.Since T.vm T.heap.size := hSA.trans (XA.warmed.since _) hkA
  have hL : LI G.Z T.vm Li := hLA.warm XA.warmed
  have hZ : G.Z.Warmed39 T.vm := State.Warmed39.trans (t := K.s.setVm vmA) hZA XA.warmed.wide
  have hal := hZ.alike
  have E0 := hI.old
  have wi : (Cond.instantiable "java/lang/String" 4).before G.a0 G.Z = true := wS _ (by simp [Bundle.stringAtoms, Bundle.sN])
  have wa : (Cond.arrayClass .byte).before G.a0 G.Z = true := wS _ (by simp [Bundle.stringAtoms])
  have hownT : T.vm.findClass y.cls = some K.m.cls := by rw [XA.warmed.alike.findClass]; exact ok_own ok hSA
  have hownZ : G.Z.vm.findClass y.cls = some K.m.cls := by rw [← hal.findClass]; exact hownT
  obtain ⟨k, cf, i, units, hk, hcf, hcp, hu, hnm, htext, hres⟩ := Cond.stringLink_spec hownZ w
  obtain ⟨k', hk', hke, hx2, ee, hx3⟩ := hZ.2.2.2 _ k hk
  have hcf' : k'.cf = some cf := by rw [hke]; exact hcf
  have hH : ConstHeldL G.Z y.cls idx := heldStart hh w ht.1 hcw wa wi
  have oldgood : ∀ a, SlOf G.Z a units → ∃ b, Des G.Z G.a0 T.heap a false (obj "java/lang/String" litF [.ref b, .int 0]) ∧ Des G.Z G.a0 T.heap b false (arr .byte vs) ∧ ∀ e ∈ As, e.2.1 = true → a ≠ e.1 ∧ b ≠ e.1 := fun a hso => by
    obtain ⟨q, cS, hqa, hSl, hkS, hB, hbyt⟩ := hso
    subst hqa
    obtain ⟨D1, D2⟩ := sl_des (G := G) (U := G.Z) (vs := vs) ⟨rfl, rfl, fun c k h => ⟨k, h, by first | rfl | exact ⟨rfl, rfl⟩⟩⟩ hSl hkS hB hbyt htext ht
    have g1 := D1.lt
    have g2 := D2.lt
    refine ⟨q.sd, D1.cell (fun c h => E0.2 _ c h), D2.cell (fun c h => E0.2 _ c h), fun e he hw => ?_⟩
    have g3 := (hI.2.2 e he).1 hw
    exact ⟨Nat.ne_of_lt (Nat.lt_of_lt_of_le g1 g3), Nat.ne_of_lt (Nat.lt_of_lt_of_le g2 g3)⟩
  have good : ∀ a, T.vm.interned.find? (fun p => p.1 == units) = some (units, a) → k.resolved[idx]? = some none → ∃ b, Des G.Z G.a0 T.heap a false (obj "java/lang/String" litF [.ref b, .int 0]) ∧ Des G.Z G.a0 T.heap b false (arr .byte vs) ∧ ∀ e ∈ As, e.2.1 = true → a ≠ e.1 ∧ b ≠ e.1 := fun a hf hr => by
    rcases hL.where_ htext hf with ⟨r, hr1, hr2, hr3⟩ | hZf
    · obtain ⟨b, hb1, hb2⟩ := hlit r hr1 hr2
      rw [hr3] at hb1
      exact ⟨b, (hI.2.2 _ hb1).2, (hI.2.2 _ hb2).2, fun e he hw => ⟨hI.farF hb1 e he hw, hI.farF hb2 e he hw⟩⟩
    · exact oldgood a (hH _ k cf i units a hownZ hk hcf hcp hu (Or.inr ⟨hr, hZf⟩))
  -- the list of constants, one longer, the table of texts being as it was
  have third : ∀ a, ∀ q ∈ (y.cls, idx, text, a) :: Li, ∀ (us : Array UInt16) (x : Addr), utf16ToString? us = some q.2.2.1 → T.vm.interned.find? (fun p => p.1 == us) = some (us, x) → (∃ r ∈ (y.cls, idx, text, a) :: Li, r.2.2.1 = q.2.2.1 ∧ r.2.2.2 = x) ∨ G.Z.vm.interned.find? (fun p => p.1 == us) = some (us, x) := fun a q hq us x hus hf =>
    (hL.where_ hus hf).imp (fun ⟨r, h1, h2⟩ => ⟨r, List.mem_cons_of_mem _ h1, h2⟩) id
  have resd : ∀ a, k'.resolved[idx]? = some (some (.string a)) → ∃ b, Des G.Z G.a0 T.heap a false (obj "java/lang/String" litF [.ref b, .int 0]) ∧ Des G.Z G.a0 T.heap b false (arr .byte vs) ∧ ∀ e ∈ As, e.2.1 = true → a ≠ e.1 ∧ b ≠ e.1 := fun a h0 => by
    rcases ee idx with e0 | ⟨hop, r, e1, hr | ⟨a3, t, si, us, rfl, -, q3, q4, q5⟩⟩
    · exact oldgood a (hH _ k cf i units a hownZ hk hcf hcp hu (Or.inl (e0 ▸ h0)))
    · exfalso
      cases r <;> simp [State.rightAt, hk, hcf, hnm] at hr
    · rw [hcf] at q3 q4
      have e3 : si = i := by
        have := q3.symm.trans hcp
        simpa using this
      subst e3
      have e4 : us = units := by simpa [ConstantPool.utf8?, hu] using q4.symm
      subst e4
      have e5 : a3 = a := by
        have := e1.symm.trans h0
        simpa using this
      subst e5
      exact good a3 q5 hop
  have isopen : (∃ a, k'.resolved[idx]? = some (some (.string a))) ∨ (k'.resolved[idx]? = some none ∧ k.resolved[idx]? = some none) := by
    rcases ee idx with e0 | ⟨hop, r, e1, hr | ⟨a3, t, si, us, rfl, -⟩⟩
    · rcases hres with h0 | ⟨a, h0⟩
      · exact Or.inr ⟨e0.trans h0, h0⟩
      · exact Or.inl ⟨a, e0.trans h0⟩
    · exfalso
      cases r <;> simp [State.rightAt, hk, hcf, hnm] at hr
    · exact Or.inl ⟨a3, e1⟩
  rcases isopen with ⟨a, h0⟩ | ⟨hopen, hopen0⟩
  · -- it was loaded before
    obtain ⟨b, D1, D2, far⟩ := resd a h0
    have hlit' : RoadKit.Lit (K.s.setVm T.vm) y.cls idx a := by
      show State.resolvedAt? (K.s.setVm T.vm) y.cls idx = _
      simp [State.resolvedAt?, State.setVm, hownT, hk', h0]
    obtain ⟨U, u, g1, g2⟩ := nx a b T T.vm T.heap.size locs ok (X.more (Nat.le_add_right _ _) (Nat.le_add_right _ _)) hS (Nat.le_refl _) (fun q => by rw [hnw] at q; cases q) (hI.two D1 D2 far) ⟨hL.1.step (Or.inl rfl), fun r hr => by
      rcases List.mem_cons.mp hr with rfl | hr
      · exact hlit'
      · exact hL.2.1 r hr, third a⟩ hF
    exact ⟨U, u, ldcAgain X ok.1 hZ hownT w hlit' (g := mkF K.m pc Ls.toArray st) rfl (hb ok.2.1 hd) _ g1, g2⟩
  have q2 : k'.cf.bind (namesOf? ·.constantPool idx) = some (.string text) := by rw [hcf']; exact hnm
  have q3 : k'.cf.bind (·.constantPool[idx]?) = some (.string i) := by rw [hcf']; exact hcp
  have q4 : k'.cf.bind (·.constantPool.utf8? i) = some units := by rw [hcf']; simp [ConstantPool.utf8?, hu]
  cases hf : T.vm.interned.find? (fun p => p.1 == units) with
  | some pr =>
    obtain ⟨u', a⟩ := pr
    have hu' : u' = units := by
      have := Array.find?_some hf
      simpa using this
    subst hu'
    obtain ⟨b, D1, D2, far⟩ := good a hf hopen0
    have hW : (K.s.setVm T.vm).Warmed39 (T.vm.noted K.m.cls idx (.string a)) := (State.Warmed39.refl (K.s.setVm T.vm)).notedString hk' (Or.inl hopen) q2 q3 q4 hf
    have X2 := (X.more (cells := cells) (slots := slots) (Nat.le_add_right cells 2) (Nat.le_add_right slots (n + 4))).retabled hW
    have hB : (K.s.setVm T.vm).Booked (T.vm.noted K.m.cls idx (.string a)) T.heap.size := State.Booked.step (T := T) (T₂ := T.setVm (T.vm.noted K.m.cls idx (.string a))) (X.warmed.no_new_pair _) X.same.2.1 ⟨Nat.le_refl _, Or.inl rfl⟩
    have hS2 : K.s.Since (T.vm.noted K.m.cls idx (.string a)) T.heap.size := hS.trans ⟨hW, hB⟩ (Nat.le_refl _)
    have hk2 : (T.vm.noted K.m.cls idx (.string a)).classes[K.m.cls]? = some _ := Vm.classes_note_self idx (.string a) hk'
    have hr2 := Class.resolved_note_self (k := k') (.string a) hopen
    have hlit' : RoadKit.Lit (K.s.setVm (T.vm.noted K.m.cls idx (.string a))) y.cls idx a := by
      have hf2 : (T.vm.noted K.m.cls idx (.string a)).findClass y.cls = some K.m.cls := by rw [hW.alike.findClass]; exact hownT
      show State.resolvedAt? (K.s.setVm _) y.cls idx = _
      simp [State.resolvedAt?, State.setVm, hf2, hk2, hr2]
    obtain ⟨U, u, g1, g2⟩ := nx a b (T.setVm (T.vm.noted K.m.cls idx (.string a))) (T.vm.noted K.m.cls idx (.string a)) T.heap.size locs ok X2 hS2 (Nat.le_refl _) (fun q => by rw [hnw] at q; cases q) (hI.two D1 D2 far) ⟨hL.1.step (Or.inl rfl), fun r hr => by
      rcases List.mem_cons.mp hr with rfl | hr
      · exact hlit'
      · exact Lit.stays (s := K.s) (hL.2.1 r hr) hW, third a⟩ hF
    refine ⟨U, u, ?_, g2⟩
    have hdg : decode K.c.code (mkF K.m pc Ls.toArray st).pc = .ok (.ldc idx, 2) := hb ok.2.1 hd
    have hexec := ok.1
    jvm_step X.here [hexec, hdg, ldc.wp_string_found (e := K.e) (s := T) (f := mkF K.m pc Ls.toArray st) X.here.top hk' hcf' hcp hu hopen hf]
    exact g1
  | none =>
    have Y := rebase X E0 (by omega) (by omega)
    have hHL : ConstHeldL ((rebS0 G K.s T.vm).setVm T.vm) y.cls idx := fun c2 k2 cf2 i2 us2 a2 r1 r2 r3 r4 r5 r6 => by
      exfalso
      cases (show T.vm.findClass y.cls = some c2 from r1).symm.trans hownT
      cases (show T.vm.classes[K.m.cls]? = some k2 from r2).symm.trans hk'
      cases r3.symm.trans hcf'
      cases r4.symm.trans hcp
      cases r5.symm.trans hu
      rcases r6 with r6 | ⟨-, r6⟩
      · rw [hopen] at r6; cases r6
      · rw [show ((rebS0 G K.s T.vm).setVm T.vm).vm.interned.find? (fun p => p.1 == units) = none from hf] at r6; cases r6
    obtain ⟨a, T', Y', hS', ⟨kk, hkk, hrr⟩, hb', h1', hint, ⟨units', htext', hin⟩, st'⟩ := Y.ldcColdF (fun b cl h => E0.2 b cl h) ok.1 (own := y.cls) (text := text) (index := idx) hownT
      (mvS (s := rebS0 G K.s T.vm) hZ w) (fun d hd => by
        have q := wS d hd
        simp only [Bundle.stringAtoms, List.mem_cons, List.not_mem_nil, or_false] at hd
        rcases hd with rfl | rfl | rfl | rfl | rfl | rfl | rfl
        · exact mv (s := rebS0 G K.s T.vm) hZ q
        · exact mv (s := rebS0 G K.s T.vm) hZ q
        · exact mvA (s := rebS0 G K.s T.vm) hZ q
        · exact mv (s := rebS0 G K.s T.vm) hZ q
        · exact mv (s := rebS0 G K.s T.vm) hZ q
        · exact mv (s := rebS0 G K.s T.vm) hZ q
        · exact mv (s := rebS0 G K.s T.vm) hZ q) hHL (fun units hu => Jvm.ClassFile.lat_of_text hu ht.1) (g := mkF K.m pc Ls.toArray st) rfl (hb ok.2.1 hd) hn hbig (by show _ + 2 ≤ _ + _; omega) (by show _ + _ ≤ _ + _; omega)
    have euu : units' = units := Array.toList_inj.mp (by rw [Jvm.ClassFile.units_of_text htext' ht.1, Jvm.ClassFile.units_of_text htext ht.1])
    subst euu
    have hal' : G.Z.vm.Alike T'.vm := (State.Warmed39.trans (t := rebS0 G K.s T.vm) hZ hS'.1).alike
    have E : Ext T.heap T'.heap := ext_of hb'
    have hW0 : (K.s.setVm T.vm).Warmed39 T'.vm := hS'.1
    have X1 := X.retabled hW0
    have hsz : T'.heap.size ≤ T.heap.size + 2 := by
      have q := Y'.heapSize
      have q' : T'.heap.size ≤ G.Z.heap.size + ((T.heap.size - G.Z.heap.size) + 2) := q
      have := E0.1
      omega
    have sm0 := own_sums E0
    have sm1 := own_sums E
    have sm2 := own_sums (h := G.Z.heap) (h' := T'.heap) ⟨Nat.le_trans E0.1 E.1, fun x c q => E.2 x c (E0.2 x c q)⟩
    have bk : T.slotsUsed = (T.heap.toList.map fun c => c.slots.size).sum := by
      have h := X.book
      simp only [State.slotsTrue, beq_iff_eq] at h
      rw [h]; exact own_foldA _
    have bk' : T'.slotsUsed = (T'.heap.toList.map fun c => c.slots.size).sum := by
      have h := Y'.book
      simp only [State.slotsTrue, beq_iff_eq] at h
      rw [h]; exact own_foldA _
    have hsame : (T.setVm T'.vm).sameButNew (T'.setVm T'.vm) [] 2 (n + 4) := by
      have q1 := Y'.same
      have q0 := X.same
      refine ⟨?_, E.1, hsz, ?_, ?_, fun a c h => ⟨c, E.2 a c h, rfl, rfl, fun _ _ => rfl⟩⟩
      · have e1 : T' = ({ (K.s.setVm T.vm).setFrames T'.frames with heap := T'.heap, slotsUsed := T'.slotsUsed } : State).setVm T'.vm := by
          have h := congrArg (fun s : State => s.setVm T'.vm) q1.1
          exact h
        have e0 : T = ({ (K.s.setVm T.vm).setFrames T.frames with heap := T.heap, slotsUsed := T.slotsUsed } : State).setVm T.vm := by
          have h := congrArg (fun s : State => s.setVm T.vm) q0.1
          exact h
        have e2 : (T.setVm T'.vm).setFrames T'.frames = ({ (K.s.setVm T.vm).setFrames T'.frames with heap := T.heap, slotsUsed := T.slotsUsed } : State).setVm T'.vm := by
          have e3 : (T.setVm T'.vm).setFrames T'.frames = ((({ (K.s.setVm T.vm).setFrames T.frames with heap := T.heap, slotsUsed := T.slotsUsed } : State).setVm T.vm).setVm T'.vm).setFrames T'.frames := by rw [← e0]
          rw [e3]
          show ({ ((K.s.setVm T.vm).setFrames T.frames).setFrames T'.frames with heap := T.heap, slotsUsed := T.slotsUsed, vm := T'.vm } : State) = _
          rw [State.setFrames_setFrames]
          rfl
        show T' = { (T.setVm T'.vm).setFrames T'.frames with heap := T'.heap, slotsUsed := T'.slotsUsed }
        rw [e2]
        exact e1
      · show T'.slotsUsed = T.slotsUsed + _
        rw [bk, bk']; exact sm1
      · have q : ((T'.heap.toList.drop G.Z.heap.size).map fun c => c.slots.size).sum ≤ ((T.heap.toList.drop G.Z.heap.size).map fun c => c.slots.size).sum + (n + 4) := q1.2.2.2.2.1
        show ((T'.heap.toList.drop T.heap.size).map fun c => c.slots.size).sum ≤ n + 4
        omega
    have X2 := X1.moved (T₂ := T') Y'.here Y'.tail (Y'.limits.trans X.limits.symm) (Y'.bytes.trans X.bytes.symm) (State.WarmedH.refl _) hsame
    rw [List.append_nil] at X2
    have hB : (K.s.setVm T.vm).Booked T'.vm T'.heap.size := State.Booked.step (X.warmed.no_new_pair _) X.same.2.1 h1'
    have hSn : K.s.Since T'.vm T'.heap.size := hS.trans ⟨hW0, hB⟩ E.1
    obtain ⟨q, cS, hqa, hSl, hkS, hB', hbyt, hpl⟩ := hin
    subst hqa
    obtain ⟨D1, D2⟩ := sl_des (G := G) (vs := vs) hal' hSl hkS hB' hbyt htext ht
    have hI' := hI.ext E
    have far : ∀ e ∈ As, e.2.1 = true → q.sa ≠ e.1 ∧ q.sd ≠ e.1 := fun e he hw => by
      have g1 := (hI.2.2 e he).1 hw
      have g2 := (hI.2.2 e he).2.lt
      rcases hpl with ⟨p1, p2⟩ | ⟨p1, p2⟩
      · exact ⟨Nat.ne_of_lt (Nat.lt_of_lt_of_le p1 g1), Nat.ne_of_lt (Nat.lt_of_lt_of_le p2 g1)⟩
      · exact ⟨(Nat.ne_of_lt (Nat.lt_of_lt_of_le g2 p1)).symm, (Nat.ne_of_lt (Nat.lt_of_lt_of_le g2 p2)).symm⟩
    -- the text is booked at that very place
    have hnew : T'.vm.interned.find? (fun p => p.1 == units') = some (units', q.sa) := by
      obtain ⟨k2, hk2, -, -, ee2, -⟩ := hW0.2.2.2 _ k' hk'
      cases hkk.symm.trans hk2
      rcases ee2 idx with e0 | ⟨hop, r, e1, hr | ⟨a3, t, si, us, rfl, -, z3, z4, z5⟩⟩
      · rw [hrr, hopen] at e0; cases e0
      · exfalso
        cases r <;> simp [State.rightAt, State.setVm, hk', hcf', hnm] at hr
      · rw [hcf'] at z3 z4
        have e3 : si = i := by
          have := z3.symm.trans hcp
          simpa using this
        subst e3
        have e4 : us = units' := by simpa [ConstantPool.utf8?, hu] using z4.symm
        subst e4
        have e5 : a3 = q.sa := by
          have := e1.symm.trans hrr
          simpa using this
        subst e5
        exact z5
    have hLi : LI G.Z T'.vm ((y.cls, idx, text, q.sa) :: Li) := by
      refine ⟨hL.1.step hint, fun r hr => ?_, fun r hr us x hus hfx => ?_⟩
      · rcases List.mem_cons.mp hr with rfl | hr
        · have hf : T'.vm.findClass y.cls = some K.m.cls := by rw [hW0.alike.findClass]; exact hownT
          show State.resolvedAt? (G.Z.setVm T'.vm) y.cls idx = _
          simp [State.resolvedAt?, State.setVm, hf, hkk, hrr]
        · exact Lit.stays (s := K.s) (hL.2.1 r hr) hW0
      · rcases hint with e | ⟨u0, a0, hu0, e⟩
        · rw [e] at hfx; exact third q.sa r hr us x hus hfx
        · cases hft : T.vm.interned.find? (fun p => p.1 == us) with
          | some pr =>
            have : pr = (us, x) := by
              rw [e, Array.find?_push, hft] at hfx; simpa using hfx
            subst this
            exact third q.sa r hr us x hus hft
          | none =>
            have e6 : u0 = us ∧ a0 = x := by
              rw [e, Array.find?_push, hft] at hfx
              by_cases hq : u0 == us
              · simp [hq] at hfx; exact ⟨by simpa using hq, hfx.2⟩
              · simp [hq] at hfx
            obtain ⟨rfl, rfl⟩ := e6
            have e7 : text = r.2.2.1 := Option.some.inj (hu0.symm.trans hus)
            have e8 : u0 = units' := Array.toList_inj.mp (by rw [Jvm.ClassFile.units_of_text hu0 ht.1, Jvm.ClassFile.units_of_text htext ht.1])
            subst e8
            have e9 : q.sa = a0 := by
              have := hnew.symm.trans hfx
              simpa using this
            exact Or.inl ⟨_, List.mem_cons_self .., e7, e9⟩
    obtain ⟨U, u, g1, g2⟩ := nx q.sa q.sd T' T'.vm T'.heap.size locs ok X2 hSn (Nat.le_refl _) (fun q => by rw [hnw] at q; cases q) (hI'.two D1 D2 far) hLi hF
    exact ⟨U, u, st' _ g1, g2⟩
theorem W.ldcT {text : String} {vs : List Value} {n : Nat} (hnw : G.nw = false) (hd : decode code pc = .ok (.ldc idx, 2)) (w : (Cond.stringLink y.cls idx text).before G.a0 G.Z = true) (wS : ∀ a ∈ Bundle.stringAtoms, a.before G.a0 G.Z = true)
    (hh : Jvm.Lit.constHeld G.Z y.cls idx) (hcw : Jvm.Lit.compactW.before G.a0 G.Z = true) (hnot : text ∉ Li.map fun q => q.2.2.1) (ht : (∀ c ∈ text.toList, c.toNat < 256) ∧ text.toList.map (fun c => Value.int (Jvm.Lit.byteI c.toNat.toUInt16)) = vs)
    (hn : 4 * text.toList.length ≤ n) (hbig : n ≤ 536870912) (hc : cells + 2 ≤ R.cells) (hs : slots + (n + 4) ≤ R.slots)
    (nx : ∀ a b, W G K y code ret R Q ((a, false, obj "java/lang/String" litF [.ref b, .int 0]) :: (b, false, arr .byte vs) :: As) ((y.cls, idx, text, a) :: Li) (cells + 2) (slots + (n + 4)) (pc + 2) Ls (.ref a :: st)) : W G K y code ret R Q As Li cells slots pc Ls st :=
  W.ldcG hnw hd w wS hh hcw (fun q hq e => absurd (List.mem_map.mpr ⟨q, hq, e⟩) hnot) ht hn hbig hc hs nx
end Laws
end Jvm.Own
namespace Jvm.Own
open Sem ClassFile Op Lib Bundle Jvm.Stand Jvm.Free Jvm.LawKit Jvm.RoadKit
/-! ### what is known of a list that is not written out -/
abbrev STR : String := "java/lang/String"
section Strs
variable {G : Gx} {As As' : List Ent} {a b x : Addr} {w : Bool} {C D O n d : String} {v : Value} {fs fs' : List Fd} {vs vs' : List Value} {t t' : FieldType} {sc sc' : SC} {e : Ent} {cod : Int32} {h : Heap}
def Sub (As As' : List Ent) : Prop := ∀ e ∈ As, e ∈ As'
theorem Sub.refl (As : List Ent) : Sub As As := fun _ h => h
theorem Sub.cons (q : Sub As As') : Sub As (e :: As') := fun x hx => List.mem_cons_of_mem _ (q x hx)
theorem Sub.trans {As'' : List Ent} (q : Sub As As') (r : Sub As' As'') : Sub As As'' := fun x hx => r x (q x hx)
theorem Sub.trans' {As'' : List Ent} (r : Sub As' As'') (q : Sub As As') : Sub As As'' := fun x hx => r x (q x hx)
theorem Upd.mid {pre post : List Ent} : Upd (pre ++ (a, true, sc) :: post) a sc sc' (pre ++ (a, true, sc') :: post) := ⟨pre, post, rfl, rfl⟩
theorem Upd.new (u : Upd As a sc sc' As') : (a, true, sc') ∈ As' := by obtain ⟨pre, post, rfl, rfl⟩ := u; simp
theorem Upd.other (u : Upd As a sc sc' As') (he : e ∈ As) (hne : e ≠ (a, true, sc)) : e ∈ As' := by
  obtain ⟨pre, post, rfl, rfl⟩ := u
  rcases List.mem_append.mp he with he | he
  · exact List.mem_append_left _ he
  · rcases List.mem_cons.mp he with rfl | he
    · exact absurd rfl hne
    · exact List.mem_append_right _ (List.mem_cons_of_mem _ he)
theorem Upd.of_mem (hm : (a, true, sc) ∈ As) (sc' : SC) : ∃ As', Upd As a sc sc' As' := by
  obtain ⟨pre, post, rfl⟩ := List.append_of_mem hm; exact ⟨_, pre, post, rfl, rfl⟩
def FIn (G : Gx) (As : List Ent) (a : Addr) (C O n d : String) (v : Value) : Prop := (∃ w fs vs, (a, w, obj C fs vs) ∈ As ∧ FAt fs vs O n d v) ∨ Fld G.Z G.Z.heap a O n d v
theorem FIn.mem (hm : (a, w, obj C fs vs) ∈ As) (q : FAt fs vs O n d v) : FIn G As a C O n d v := Or.inl ⟨w, fs, vs, hm, q⟩
theorem FIn.old (F : Fld G.Z G.Z.heap a O n d v) : FIn G As a C O n d v := Or.inr F
theorem FIn.fld (q : FIn G As a C O n d v) (I : Inv G As h) : Fld G.Z h a O n d v := by
  rcases q with ⟨w, fs, vs, hm, q⟩ | F
  · exact I.fld hm q
  · exact F.ext I.old
theorem FIn.sub (q : FIn G As a C O n d v) (s : Sub As As') : FIn G As' a C O n d v := q.imp (fun ⟨w, fs, vs, hm, r⟩ => ⟨w, fs, vs, s _ hm, r⟩) id
theorem Is.sub (q : Is G As a C) (s : Sub As As') : Is G As' a C := q.imp (fun ⟨w, fs, vs, hm⟩ => ⟨w, fs, vs, s _ hm⟩) id
theorem AVin.sub (q : AVin G As a t vs) (s : Sub As As') : AVin G As' a t vs := q.imp (fun ⟨w, hm⟩ => ⟨w, s _ hm⟩) id
theorem Is.upd (q : Is G As x C) (u : Upd As a (obj D fs vs) (obj D fs' vs') As') : Is G As' x C := by
  rcases q with ⟨w, f, v, hm⟩ | E
  · by_cases hne : ((x, w, obj C f v) : Ent) = (a, true, obj D fs vs)
    · have h1 := congrArg Prod.fst hne
      have h2 := congrArg (fun e : Ent => e.2.2) hne
      simp only [obj, Sum.inl.injEq, Prod.mk.injEq] at h1 h2
      obtain ⟨rfl, -, -⟩ := h2
      subst h1
      exact Or.inl ⟨_, _, _, u.new⟩
    · exact Or.inl ⟨w, f, v, u.other hm hne⟩
  · exact Or.inr E
theorem Is.updA (q : Is G As x C) (u : Upd As a (arr t vs) sc' As') : Is G As' x C := by
  rcases q with ⟨w, f, v, hm⟩ | E
  · exact Or.inl ⟨w, f, v, u.other hm (fun q => by simp at q)⟩
  · exact Or.inr E
theorem FIn.upd (q : FIn G As x C O n d v) (u : Upd As a (obj D fs vs) sc' As') (hD : C ≠ D) : FIn G As' x C O n d v := by
  rcases q with ⟨w, f, v, hm, r⟩ | F
  · exact Or.inl ⟨w, f, v, u.other hm (fun q => hD (by simp at q; exact q.2.2.1)), r⟩
  · exact Or.inr F
theorem FIn.updA (q : FIn G As x C O n d v) (u : Upd As a (arr t vs) sc' As') : FIn G As' x C O n d v := by
  rcases q with ⟨w, f, v, hm, r⟩ | F
  · exact Or.inl ⟨w, f, v, u.other hm (fun q => by simp at q), r⟩
  · exact Or.inr F
theorem AVin.upd (q : AVin G As x t vs) (u : Upd As a (obj D fs vs') sc' As') : AVin G As' x t vs := by
  rcases q with ⟨w, hm⟩ | A
  · exact Or.inl ⟨w, u.other hm (fun q => by simp at q)⟩
  · exact Or.inr A
theorem AVin.updT (q : AVin G As x t vs) (u : Upd As a (arr t' vs') sc' As') (ht : t ≠ t') : AVin G As' x t vs := by
  rcases q with ⟨w, hm⟩ | A
  · exact Or.inl ⟨w, u.other hm (fun q => ht (by simp at q; exact q.2.2.1))⟩
  · exact Or.inr A
/-- a String: its bytes, its coder -/
def StrIn (G : Gx) (As : List Ent) (a : Addr) (bs : List Value) (cod : Int32) : Prop :=
  ∃ b, Is G As a STR ∧ FIn G As a STR STR "value" "[B" (.ref b) ∧ FIn G As a STR STR "coder" "B" (.int cod) ∧ AVin G As b .byte bs
theorem StrIn.sub (q : StrIn G As a vs cod) (s : Sub As As') : StrIn G As' a vs cod := by
  obtain ⟨b, h1, h2, h3, h4⟩ := q; exact ⟨b, h1.sub s, h2.sub s, h3.sub s, h4.sub s⟩
theorem StrIn.upd {us : List Value} (q : StrIn G As x vs cod) (u : Upd As a (obj D fs vs') (obj D fs' us) As') (hD : STR ≠ D) : StrIn G As' x vs cod := by
  obtain ⟨b, h1, h2, h3, h4⟩ := q; exact ⟨b, h1.upd u, h2.upd u hD, h3.upd u hD, h4.upd u⟩
theorem StrIn.is (q : StrIn G As a vs cod) : Is G As a STR := by obtain ⟨b, h1, -⟩ := q; exact h1
/-- a String constant: not loaded yet, or here -/
def LitOk (As : List Ent) (Li : List LitE) (own : String) (idx : Nat) (text : String) (vs : List Value) : Prop :=
  (text ∉ Li.map fun q => q.2.2.1) ∨ ∃ a b, (own, idx, text, a) ∈ Li ∧ (a, false, obj STR litF [.ref b, .int 0]) ∈ As ∧ (b, false, arr .byte vs) ∈ As
theorem LitOk.sub {Li : List LitE} {own text : String} {idx : Nat} (q : LitOk As Li own idx text vs) (s : Sub As As') : LitOk As' Li own idx text vs :=
  q.imp id fun ⟨a, b, h1, h2, h3⟩ => ⟨a, b, h1, s _ h2, s _ h3⟩
theorem LitOk.upd {Li : List LitE} {own text : String} {idx : Nat} (q : LitOk As Li own idx text vs) (u : Upd As a sc sc' As') : LitOk As' Li own idx text vs :=
  q.imp id fun ⟨a, b, h1, h2, h3⟩ => ⟨a, b, h1, u.other h2 (fun q => by simp at q), u.other h3 (fun q => by simp at q)⟩
theorem LitOk.str {a b : Addr} (h2 : (a, false, obj STR litF [.ref b, .int 0]) ∈ As) (h3 : (b, false, arr .byte vs) ∈ As) : StrIn G As a vs 0 :=
  ⟨b, Is.mem h2, FIn.mem h2 FAt.head, FIn.mem h2 (FAt.tail FAt.head), AVin.mem h3⟩
end Strs
section Laws
variable {G : Gx} {K : Kx} {y : MethodName} {code : ByteArray} {ret : Option FieldType} {R : Room} {Q : Qx} {As As' : List Ent} {Li Li' : List LitE} {cells slots pc pc' : Nat} {Ls Ls' : List Slot} {st st' : List Value} {idx : Nat} {a : Addr} {C O n d R0 host : String} {v : Value}
theorem W.getI (wl : (Cond.fieldLink y.cls idx R0 n d).before G.a0 G.Z = true ∨ (Cond.fieldLinkNest y.cls idx R0 n d host).before G.a0 G.Z = true) (via : Via G.Z R0 O n d) (hd : decode code pc = .ok (.getfield idx, 3))
    (hf : FIn G As a C O n d v) (nx : W G K y code ret R Q As Li cells slots (pc + 3) Ls (v :: st)) : W G K y code ret R Q As Li cells slots pc Ls (.ref a :: st) := by
  intro T vm0 k0 locs ok X hS hk hN hI hL hF
  obtain ⟨T', X', e', st'⟩ := Jvm.RoadKit.getF X ok.1 (ok_Z ok hS) (ok_own ok hS) wl via rfl (hf.fld hI) (g := mkF K.m pc Ls.toArray (.ref a :: st)) rfl rfl (hb ok.2.1 hd)
  obtain ⟨U, u, h1, h2⟩ := nx T' vm0 k0 locs ok X' hS (by rw [e']; exact hk) hN (by rw [e']; exact hI) hL hF
  exact ⟨U, u, st' _ h1, h2⟩
/-- 'ldc' of a String constant, loaded already or not -/
theorem W.ldcL {text : String} {vs : List Value} {n : Nat} (hl : LitOk As Li y.cls idx text vs) (hnw : G.nw = false) (hd : decode code pc = .ok (.ldc idx, 2)) (w : (Cond.stringLink y.cls idx text).before G.a0 G.Z = true) (wS : ∀ a ∈ Bundle.stringAtoms, a.before G.a0 G.Z = true)
    (hh : Jvm.Lit.constHeld G.Z y.cls idx) (hcw : Jvm.Lit.compactW.before G.a0 G.Z = true) (ht : (∀ c ∈ text.toList, c.toNat < 256) ∧ text.toList.map (fun c => Value.int (Jvm.Lit.byteI c.toNat.toUInt16)) = vs)
    (hn : 4 * text.toList.length ≤ n) (hbig : n ≤ 536870912) (hc : cells + 2 ≤ R.cells) (hs : slots + (n + 4) ≤ R.slots)
    (nx : ∀ a b As' Li', (a, false, obj STR litF [.ref b, .int 0]) ∈ As' → (b, false, arr .byte vs) ∈ As' → (y.cls, idx, text, a) ∈ Li' → ((As' = As ∧ Li' = Li) ∨ (As' = (a, false, obj STR litF [.ref b, .int 0]) :: (b, false, arr .byte vs) :: As ∧ Li' = (y.cls, idx, text, a) :: Li)) →
      W G K y code ret R Q As' Li' (cells + 2) (slots + (n + 4)) (pc + 2) Ls (.ref a :: st)) : W G K y code ret R Q As Li cells slots pc Ls st := by
  rcases hl with hl | ⟨a, b, h1, h2, h3⟩
  · exact W.ldcT hnw hd w wS hh hcw hl ht hn hbig hc hs fun a b => nx a b _ _ (List.Mem.head _) (List.Mem.tail _ (List.Mem.head _)) (List.Mem.head _) (Or.inr ⟨rfl, rfl⟩)
  · exact W.ldcA hd w h1 (W.mono (nx a b As Li h2 h3 h1 (Or.inl ⟨rfl, rfl⟩)) (Nat.le_add_right _ _) (Nat.le_add_right _ _))
end Laws
/-! ### small numbers as ints -/
theorem n_toInt {a : Nat} (h : a < 2147483648) : a.toInt32.toInt = a := len_toInt (by simpa using h)
theorem n_lt {a b : Nat} (h : a < b) (hb : b < 2147483648) : a.toInt32 < b.toInt32 := by
  rw [Int32.lt_iff_toInt_lt, n_toInt hb, n_toInt (by omega)]; omega
theorem n_nlt {a b : Nat} (h : b ≤ a) (ha : a < 2147483648) : ¬ a.toInt32 < b.toInt32 := by
  rw [Int32.lt_iff_toInt_lt, n_toInt ha, n_toInt (by omega)]; omega
theorem n_nn {a : Nat} (h : a < 2147483648) : ¬ a.toInt32 < 0 := by
  rw [Int32.lt_iff_toInt_lt, n_toInt h]; show ¬ ((a : Int) < 0); omega
theorem n_clamp {a : Nat} (h : a < 2147483648) : a.toInt32.toNatClampNeg = a := by
  simp only [Int32.toNatClampNeg, n_toInt h]; omega
theorem n_succ (a : Nat) : a.toInt32 + 1 = (a + 1).toInt32 := by
  show Int32.ofNat a + 1 = Int32.ofNat (a + 1)
  rw [Int32.ofNat_add]; rfl
theorem store_one {Ls : List Slot} {k : Nat} {o : Slot} {v : Value} (hold : Ls[k]? = some o) (ho : One o) (hv : v.category = 1) : storeLocals Ls.toArray k v = some (Ls.set k (.val v)).toArray := by
  rw [Jvm.Free.XS.store1 (o := o) (by simpa using hold) ho hv]; simp
theorem byt_fits (z : Int32) : fits .byte (.int z.toInt8.toInt32) = true := fits_nar_byte z
end Jvm.Own
namespace Jvm.Own
open Sem ClassFile Op Lib Bundle Jvm.Stand Jvm.Free Jvm.LawKit Jvm.RoadKit
abbrev byt (z : Int32) : Value := .int z.toInt8.toInt32
theorem n_ne0 {a : Nat} (h0 : 0 < a) (h : a < 2147483648) : ¬ a.toInt32 = 0 := fun e => by
  have := congrArg Int32.toInt e
  rw [n_toInt h] at this
  have h0' : (0 : Int32).toInt = 0 := rfl
  omega
theorem own_fill (cs : List Int32) {k m : Nat} (hk : k < cs.length) (hm : k + (m + 1) = cs.length) :
    ((cs.take k).map byt ++ List.replicate (m + 1) (Value.int 0)).set k (byt cs[k]) = (cs.take (k + 1)).map byt ++ List.replicate m (Value.int 0) := by
  have hl : ((cs.take k).map byt).length = k := by simp; omega
  rw [List.set_append_right _ _ (by omega), hl, Nat.sub_self, List.replicate_succ, List.set_cons_zero, List.take_succ_eq_append_getElem hk, List.map_append, List.append_assoc]
  rfl
theorem own_done (cs : List Int32) : (cs.take cs.length).map byt ++ List.replicate 0 (Value.int 0) = cs.map byt := by simp
/-- the String constants loaded since: only such texts -/
def LX (Ts : List String) (Li L : List LitE) : Prop := ∃ M, L = M ++ Li ∧ ∀ q ∈ M, q.2.2.1 ∈ Ts
theorem LX.refl (Ts : List String) (Li : List LitE) : LX Ts Li Li := ⟨[], rfl, fun _ h => nomatch h⟩
theorem LX.one {Ts : List String} {Li : List LitE} {q : LitE} (h : q.2.2.1 ∈ Ts) : LX Ts Li (q :: Li) := ⟨[q], rfl, fun r hr => by cases List.mem_singleton.mp hr; exact h⟩
theorem LX.trans {Ts : List String} {Li L L' : List LitE} (a : LX Ts Li L) (b : LX Ts L L') : LX Ts Li L' := by
  obtain ⟨M, rfl, h⟩ := a; obtain ⟨N, rfl, g⟩ := b
  exact ⟨N ++ M, by simp, fun q hq => (List.mem_append.mp hq).elim (g q) (h q)⟩
theorem LX.mono {Ts Ts' : List String} {Li L : List LitE} (a : LX Ts Li L) (h : ∀ t ∈ Ts, t ∈ Ts') : LX Ts' Li L := by
  obtain ⟨M, rfl, g⟩ := a; exact ⟨M, rfl, fun q hq => h _ (g q hq)⟩
theorem LX.mem {Ts : List String} {Li L : List LitE} (a : LX Ts Li L) {q : LitE} (h : q ∈ Li) : q ∈ L := by obtain ⟨M, rfl, -⟩ := a; exact List.mem_append_right _ h
theorem LX.lit {Ts : List String} {Li L : List LitE} {As As' : List Ent} {own text : String} {idx : Nat} {vs : List Value} (a : LX Ts Li L) (s : Sub As As') (q : LitOk As Li own idx text vs) (ht : text ∉ Ts) : LitOk As' L own idx text vs := by
  rcases q with q | ⟨x, b, h1, h2, h3⟩
  · refine Or.inl fun h => ?_
    obtain ⟨M, rfl, g⟩ := a
    rw [List.map_append] at h
    rcases List.mem_append.mp h with h | h
    · obtain ⟨r, hr, e⟩ := List.mem_map.mp h
      exact ht (e ▸ g r hr)
    · exact q h
  · exact Or.inr ⟨x, b, a.mem h1, s _ h2, s _ h3⟩
/-- COMPACT_STRINGS is on -/
def CSt (G : Gx) : Prop := ∃ z : Int32, Sta G.Z G.Z.heap STR "COMPACT_STRINGS" "Z" (.int z) ∧ ¬ z = 0
/-- a String is made of chars: what the maker leaves -/
def NewS (G : Gx) (As : List Ent) (Li : List LitE) (o : Addr) (bs : List Value) (A : List Ent) (L : List LitE) : Prop :=
  StrIn G A o bs 0 ∧ Sub As A ∧ LitOk A L STR 7 "" [] ∧ LX [""] Li L
end Jvm.Own
namespace Jvm.Own
open Sem ClassFile Op Lib Bundle Jvm.Stand Jvm.Free Jvm.LawKit Jvm.RoadKit
theorem ref_nar {u : Value} {C : String} (h : u.isRef = true) : narrow (.object C) u = u := by rcases ref_cases h with rfl | ⟨_, rfl⟩ <;> rfl
theorem ref_fit {u : Value} {C : String} (h : u.isRef = true) : fits (.object C) u = true := by rcases ref_cases h with rfl | ⟨_, rfl⟩ <;> rfl
theorem ref_cat {u : Value} (h : u.isRef = true) : u.category = 1 := by rcases ref_cases h with rfl | ⟨_, rfl⟩ <;> rfl
theorem Is.cons {G : Gx} {As : List Ent} {a : Addr} {C : String} {e : Ent} (q : Is G As a C) : Is G (e :: As) a C := q.sub (Sub.cons (Sub.refl _))
end Jvm.Own
namespace Jvm.Own
open Sem ClassFile Op Lib Bundle Jvm.Stand Jvm.Free Jvm.LawKit Jvm.RoadKit
/-- 1 where the two lists are one, else 0 -/
def eqI (xs zs : List Int32) : Int32 := if xs = zs then 1 else 0
theorem eqI_len {xs zs : List Int32} (h : xs.length ≠ zs.length) : eqI xs zs = 0 := if_neg fun e => h (congrArg List.length e)
theorem eqI_at {xs zs : List Int32} {k : Nat} (h1 : k < xs.length) (h2 : k < zs.length) (h : xs[k] ≠ zs[k]) : eqI xs zs = 0 := if_neg fun e => h (by subst e; rfl)
theorem eqI_all {xs zs : List Int32} (hl : xs.length = zs.length) (h : ∀ k (h1 : k < xs.length) (h2 : k < zs.length), xs[k] = zs[k]) : eqI xs zs = 1 := if_pos (List.ext_getElem hl h)
theorem eqI_self (xs : List Int32) : eqI xs xs = 1 := if_pos rfl
theorem n_inj {a b : Nat} (ha : a < 2147483648) (hb : b < 2147483648) (h : a.toInt32 = b.toInt32) : a = b := by
  have := congrArg Int32.toInt h
  rw [n_toInt ha, n_toInt hb] at this
  omega
theorem eqI_nar (xs zs : List Int32) : narrow .boolean (.int (eqI xs zs)) = .int (eqI xs zs) := by unfold eqI; split <;> rfl
end Jvm.Own
namespace Jvm.Own
open Sem ClassFile Op Lib Bundle Jvm.Stand Jvm.Free Jvm.LawKit Jvm.RoadKit
theorem Fld.uniq {Z : State} {h : Heap} {a : Addr} {C n d : String} {v u : Value} (F : Fld Z h a C n d v) (H : Fld Z h a C n d u) : v = u := by
  by_cases q : v = u
  · exact q
  · exact absurd rfl (RoadKit.Fld.ne F H q)
theorem AV.uniq {Z : State} {h : Heap} {a : Addr} {w w' : Bool} {t t' : FieldType} {vs us : List Value} (A : AV Z h a w t vs) (B : AV Z h a w' t' us) : vs = us := by
  obtain ⟨c, A1, e1, -⟩ := A
  obtain ⟨c', B1, e2, -⟩ := B
  cases A1.1.symm.trans B1.1
  exact e1.symm.trans e2
theorem StrIn.uniq {G : Gx} {As : List Ent} {a : Addr} {vs us : List Value} {c c' : Int32} {h : Heap} (I : Inv G As h) (q : StrIn G As a vs c) (r : StrIn G As a us c') : vs = us := by
  obtain ⟨b, -, q2, -, q4⟩ := q
  obtain ⟨b', -, r2, -, r4⟩ := r
  obtain rfl := Value.ref.inj (Fld.uniq (q2.fld I) (r2.fld I))
  exact AV.uniq (q4.get I) (r4.get I)
theorem map_int_inj {xs zs : List Int32} (h : xs.map Value.int = zs.map Value.int) : xs = zs := by
  have := congrArg (List.map fun v => match v with | Value.int z => z | _ => 0) h
  simpa [List.map_map, Function.comp_def] using this
end Jvm.Own
namespace Jvm.Own
open Sem ClassFile Op Lib Bundle Jvm.Stand Jvm.Free Jvm.LawKit Jvm.RoadKit
/-- a class right below Object is no K -/
theorem not_sub {Z : State} {a0 : Array Value} {C O K : String} {n : Nat} (wC : (Cond.superclass C O).before a0 Z = true) (wO : (Cond.noSuperclass O).before a0 Z = true) (wK : (Cond.instantiable K n).before a0 Z = true) (hn : C ≠ K) (hO : O ≠ K) :
    ∃ c t, Z.vm.findClass C = some c ∧ Z.vm.findClass K = some t ∧ Z.vm.assignable c t = false := by
  obtain ⟨c, h0⟩ := found_sup wC
  obtain ⟨p, k, kp, h1, h2, h3, h4, h5, -, h7⟩ := Cond.superclass_spec h0 wC
  obtain ⟨o, ko, g1, g2, g3, -⟩ := Cond.noSuperclass_spec wO
  cases h1.symm.trans g1
  cases h3.symm.trans g2
  obtain ⟨t, kt, t1, t2, t3, t4, -⟩ := Cond.instantiable_spec wK
  have ne := ids_ne h0 t1 hn
  have ne' := ids_ne h1 t1 hO
  have ti : kt.isInterface = false := by simp at t4; exact t4.1
  have sub : ∀ fuel, Z.vm.isSubclassAux fuel c t = false := fun fuel => by
    cases fuel with
    | zero => rfl
    | succ f => cases f with
      | zero => simp [Vm.isSubclassAux, ne, h2, h4]
      | succ f => simp [Vm.isSubclassAux, ne, ne', h2, h3, h4, g3]
  refine ⟨c, t, h0, t1, ?_⟩
  show Z.vm.assignableAux (255 + 1) c t = false
  simp [Vm.assignableAux, ne, h2, t2, h5, t3, ti, Vm.isSubclass, sub]
end Jvm.Own
namespace Jvm.Own
open Sem ClassFile Op Lib Bundle Jvm.Stand Jvm.Free Jvm.LawKit Jvm.RoadKit
theorem shr0 (n : Int32) : n >>> (0 : Int32) = n := by
  apply Int32.toInt_inj.mp
  simp
end Jvm.Own
namespace Jvm.Own
open Sem ClassFile Op Lib Bundle Jvm.Stand Jvm.Free Jvm.LawKit Jvm.RoadKit
theorem n_add (a b : Nat) : a.toInt32 + b.toInt32 = (a + b).toInt32 := by
  show Int32.ofNat a + Int32.ofNat b = Int32.ofNat (a + b)
  rw [Int32.ofNat_add]
theorem n_sub {a b : Nat} (h : b ≤ a) : a.toInt32 - b.toInt32 = (a - b).toInt32 := by
  have e : (a - b).toInt32 + b.toInt32 = a.toInt32 := by rw [n_add]; congr 1; omega
  rw [← e, Int32.add_sub_cancel]
end Jvm.Own
namespace Jvm.Own
open Sem ClassFile Op Lib Bundle Jvm.Stand Jvm.Free Jvm.LawKit Jvm.RoadKit
theorem args_ls {args : List Value} {Ls : List Slot} {n : Nat} (h : Sym.laidSlots args ++ List.replicate (n - (Sym.laidSlots args).length) .unset = Ls) : argsToLocals args.toArray n = Ls.toArray := by
  apply Array.toList_inj.mp
  rw [Sym.argsToLocals_toList]
  exact h
end Jvm.Own
namespace Jvm.Own
open Sem ClassFile Op Lib Bundle Jvm.Stand Jvm.Free Jvm.LawKit Jvm.RoadKit
/-! ### a cell that the walk won't write again -/
def Frz (As : List Ent) (a : Addr) (sc : SC) (As' : List Ent) : Prop := ∃ pre post, As = pre ++ (a, true, sc) :: post ∧ As' = pre ++ (a, false, sc) :: post
section Frzs
variable {G : Gx} {As As' As'' : List Ent} {a b x : Addr} {w : Bool} {sc sc' : SC} {e : Ent} {h : Heap} {C O n d : String} {fs : List Fd} {vs us : List Value} {t : FieldType}
theorem Frz.head : Frz ((a, true, sc) :: As) a sc ((a, false, sc) :: As) := ⟨[], As, rfl, rfl⟩
theorem Frz.tail (u : Frz As a sc As') : Frz (e :: As) a sc (e :: As') := by obtain ⟨pre, post, rfl, rfl⟩ := u; exact ⟨e :: pre, post, rfl, rfl⟩
theorem Frz.of_mem (hm : (a, true, sc) ∈ As) : ∃ As', Frz As a sc As' := by obtain ⟨pre, post, rfl⟩ := List.append_of_mem hm; exact ⟨_, pre, post, rfl, rfl⟩
theorem Frz.new (u : Frz As a sc As') : (a, false, sc) ∈ As' := by obtain ⟨pre, post, rfl, rfl⟩ := u; simp
theorem Frz.other (u : Frz As a sc As') (he : e ∈ As) (hne : e ≠ (a, true, sc)) : e ∈ As' := by
  obtain ⟨pre, post, rfl, rfl⟩ := u
  rcases List.mem_append.mp he with he | he
  · exact List.mem_append_left _ he
  · rcases List.mem_cons.mp he with rfl | he
    · exact absurd rfl hne
    · exact List.mem_append_right _ (List.mem_cons_of_mem _ he)
theorem Des.frz {Z : State} {a0 : Array Value} (D : Des Z a0 h a true sc) : Des Z a0 h a false sc := by
  rcases sc with ⟨C, fs, vs⟩ | ⟨t, vs⟩
  · exact ⟨D.1, D.2.1, D.2.2.1, fun q => nomatch q⟩
  · obtain ⟨c, A, r1, r2, r3, -⟩ := D
    exact ⟨c, A, r1, r2, r3, fun q => nomatch q⟩
theorem Inv.frz (I : Inv G As h) (u : Frz As a sc As') : Inv G As' h := by
  obtain ⟨pre, post, rfl, rfl⟩ := u
  refine ⟨I.1, ?_, fun e he => ?_⟩
  · have sp := I.2.1
    simp only [Sep, List.map_append, List.map_cons, List.pairwise_append, List.pairwise_cons] at sp ⊢
    refine ⟨sp.1, ⟨fun p hp q => sp.2.1.1 p hp (by simp), sp.2.1.2⟩, fun p hp q hq r => ?_⟩
    rcases List.mem_cons.mp hq with rfl | hq
    · exact sp.2.2 p hp (a, true) (List.mem_cons_self ..) (by simp)
    · exact sp.2.2 p hp q (List.mem_cons_of_mem _ hq) r
  · rcases List.mem_append.mp he with he | he
    · exact I.2.2 e (List.mem_append_left _ he)
    · rcases List.mem_cons.mp he with rfl | he
      · exact ⟨(fun q => nomatch q), (I.2.2 (a, true, sc) (List.mem_append_right _ (List.mem_cons_self ..))).2.frz⟩
      · exact I.2.2 e (List.mem_append_right _ (List.mem_cons_of_mem _ he))
/-- a String that won't be written again: its signs -/
def StrF (As : List Ent) (a : Addr) (bs : List Value) : Prop :=
  ∃ b fs vs, (a, false, obj STR fs vs) ∈ As ∧ FAt fs vs STR "value" "[B" (.ref b) ∧ FAt fs vs STR "coder" "B" (.int 0) ∧ (b, false, arr .byte bs) ∈ As
theorem StrF.str (q : StrF As a vs) : StrIn G As a vs 0 := by
  obtain ⟨b, fs, us, h1, h2, h3, h4⟩ := q; exact ⟨b, Is.mem h1, FIn.mem h1 h2, FIn.mem h1 h3, AVin.mem h4⟩
theorem StrF.is (q : StrF As a vs) : Is G As a STR := by obtain ⟨b, fs, us, h1, h2, h3, h4⟩ := q; exact Is.mem h1
theorem StrF.sub (q : StrF As a vs) (s : Sub As As') : StrF As' a vs := by
  obtain ⟨b, fs, us, h1, h2, h3, h4⟩ := q; exact ⟨b, fs, us, s _ h1, h2, h3, s _ h4⟩
theorem StrF.upd (q : StrF As a vs) (u : Upd As x sc sc' As') : StrF As' a vs := by
  obtain ⟨b, fs, us, h1, h2, h3, h4⟩ := q; exact ⟨b, fs, us, u.other h1 (fun r => by simp at r), h2, h3, u.other h4 (fun r => by simp at r)⟩
theorem StrF.frz (q : StrF As a vs) (u : Frz As x sc As') : StrF As' a vs := by
  obtain ⟨b, fs, us, h1, h2, h3, h4⟩ := q; exact ⟨b, fs, us, u.other h1 (fun r => by simp at r), h2, h3, u.other h4 (fun r => by simp at r)⟩
theorem StrF.lit (h2 : (a, false, obj STR litF [.ref b, .int 0]) ∈ As) (h3 : (b, false, arr .byte vs) ∈ As) : StrF As a vs := ⟨b, _, _, h2, FAt.head, FAt.tail FAt.head, h3⟩
/-- what is not written any more stays -/
def Stay (As As' : List Ent) : Prop := ∀ e ∈ As, e.2.1 = false → e ∈ As'
theorem Stay.refl (As : List Ent) : Stay As As := fun _ h _ => h
theorem Stay.trans (p : Stay As As') (q : Stay As' As'') : Stay As As'' := fun e h w => q e (p e h w) w
theorem Sub.stay (p : Sub As As') : Stay As As' := fun e h _ => p e h
theorem Upd.stay (u : Upd As a sc sc' As') : Stay As As' := fun e h w => u.other h (fun q => by subst q; cases w)
theorem Frz.stay (u : Frz As a sc As') : Stay As As' := fun e h w => u.other h (fun q => by subst q; cases w)
theorem StrF.stay (q : StrF As a vs) (s : Stay As As') : StrF As' a vs := by
  obtain ⟨b, fs, us, h1, h2, h3, h4⟩ := q; exact ⟨b, fs, us, s _ h1 rfl, h2, h3, s _ h4 rfl⟩
theorem LitOk.stay {Li : List LitE} {own text : String} {idx : Nat} (q : LitOk As Li own idx text vs) (s : Stay As As') : LitOk As' Li own idx text vs :=
  q.imp id fun ⟨a, b, h1, h2, h3⟩ => ⟨a, b, h1, s _ h2 rfl, s _ h3 rfl⟩
/-- all but two cells stay -/
def Kp2 (As : List Ent) (x y : Ent) (As' : List Ent) : Prop := ∀ e ∈ As, e ≠ x → e ≠ y → e ∈ As'
theorem Kp2.stay {x y : Ent} (q : Kp2 As x y As') (hx : x.2.1 = true) (hy : y.2.1 = true) : Stay As As' := fun e h w => q e h (fun r => by subst r; rw [hx] at w; cases w) (fun r => by subst r; rw [hy] at w; cases w)
end Frzs
section Laws
variable {G : Gx} {K : Kx} {y : MethodName} {code : ByteArray} {ret : Option FieldType} {R : Room} {Q : Qx} {As As' : List Ent} {Li Li' : List LitE} {cells slots pc pc' : Nat} {Ls Ls' : List Slot} {st st' : List Value} {idx : Nat} {a b : Addr} {C O n d R0 host : String} {v : Value} {sc : SC} {t : FieldType} {vs us us' : List Value}
theorem W.frz (u : Frz As a sc As') (nx : W G K y code ret R Q As' Li cells slots pc Ls st) : W G K y code ret R Q As Li cells slots pc Ls st :=
  fun T vm0 k0 locs ok X hS hk hN hI hL hF => nx T vm0 k0 locs ok X hS hk hN (hI.frz u) hL hF
theorem AV.arv {Z : State} {h : Heap} {w : Bool} (A : AV Z h a w t vs) : ∃ k, Arv Z h a k t vs.length.toInt32 vs .null ∧ (w = true → t = .byte → Z.vm.findClass "[B" = some k) := by
  obtain ⟨c, A, e1, e2, e3, e4⟩ := A
  have hs : c.slots.size = vs.length := by rw [← e1]; simp
  refine ⟨c.cls, ⟨c, A, rfl, by rw [n_clamp e2, hs], n_nn e2, fun k hk => ?_, fun i hi => ?_⟩, fun hw ht => (e4 hw).2 ht⟩
  · have hk' : k < vs.length := by rw [← hs]; exact hk
    rw [List.getD_eq_getElem?_getD, List.getElem?_eq_getElem hk', Option.getD_some, ← Array.getElem?_toList, e1, List.getElem?_eq_getElem hk']
  · have hi' : i < vs.length := by rw [← hs]; exact hi
    rw [List.getD_eq_getElem?_getD, List.getElem?_eq_getElem hi', Option.getD_some]
    exact e3 _ (List.getElem_mem hi')
theorem AV.of_arv {Z : State} {h : Heap} {w : Bool} {k : ClassId} {z : Int32} {dv : Value} (A : Arv Z h a k t z vs dv) (hz : z.toNatClampNeg = vs.length) (h31 : vs.length < 2147483648) (rk : refKind t = false) (hB : t = .byte → Z.vm.findClass "[B" = some k) : AV Z h a w t vs := by
  obtain ⟨c, A, ek, e2, -, e4, e5⟩ := A
  have hs : c.slots.size = vs.length := e2.trans hz
  refine ⟨c, A, List.ext_getElem? fun i => ?_, h31, fun v hv => ?_, fun _ => ⟨(fun C e => by subst e; cases rk), fun e => by rw [ek]; exact hB e⟩⟩
  · by_cases hi : i < vs.length
    · have := e4 i (by omega)
      rw [List.getD_eq_getElem?_getD, List.getElem?_eq_getElem hi, Option.getD_some] at this
      rw [Array.getElem?_toList, this, List.getElem?_eq_getElem hi]
    · rw [List.getElem?_eq_none (by rw [Array.length_toList]; omega), List.getElem?_eq_none (by omega)]
  · obtain ⟨i, hi, rfl⟩ := List.getElem_of_mem hv
    have := e5 i (by omega)
    rwa [List.getD_eq_getElem?_getD, List.getElem?_eq_getElem hi, Option.getD_some] at this
theorem nfw : nativeFrameWords "java/lang/System" "arraycopy" 5 = 7 := by decide +kernel
/-- System.arraycopy of an array of primitives into one of the walk's own -/
theorem W.acopy {sp dp nn : Int32} {i j n : Nat} (hd : decode code pc = .ok (.invokestatic idx, 3)) (w1 : (Cond.methodLink y.cls idx Jvm.Stand.acN).before G.a0 G.Z = true) (w2 : (Cond.native Jvm.Stand.acN).before G.a0 G.Z = true) (w3 : (Cond.static Jvm.Stand.acN).before G.a0 G.Z = true) (w4 : (Cond.initialized "java/lang/System").before G.a0 G.Z = true)
    (hs : AVin G As a t vs) (rk : refKind t = false) (h1 : ¬ sp < 0) (h2 : ¬ dp < 0) (h3 : ¬ nn < 0) (hi : sp.toNatClampNeg = i) (hj : dp.toNatClampNeg = j) (hn : nn.toNatClampNeg = n) (l1 : i + n ≤ vs.length) (l2 : j + n ≤ us.length)
    (hv : us.take j ++ (vs.drop i).take n ++ us.drop (j + n) = us') (up : Upd As b (arr t us) (arr t us') As') (hf : 1 ≤ R.frames) (hl : wt st + 18 ≤ R.locals)
    (nx : W G K y code ret R Q As' Li cells slots (pc + 3) Ls st) : W G K y code ret R Q As Li cells slots pc Ls (.int nn :: .int dp :: .ref b :: .int sp :: .ref a :: st) := by
  intro T vm0 k0 locs ok X hS hk hN hI hL hF
  have hm := up.mem
  have AB : AV G.Z T.heap b true t us := hI.av hm
  have AA := hs.get hI
  obtain ⟨wa, AA⟩ : ∃ w, AV G.Z T.heap a w t vs := ⟨_, AA⟩
  obtain ⟨ka, A1, -⟩ := AA.arv
  obtain ⟨kb, B1, B1'⟩ := AB.arv
  have a31 : vs.length < 2147483648 := by obtain ⟨_, _, _, q, _⟩ := AA; exact q
  have b31 : us.length < 2147483648 := by obtain ⟨_, _, _, q, _⟩ := AB; exact q
  subst hi; subst hj; subst hn
  obtain ⟨T', h', L, X', e', F', Kp, B2, st'⟩ := cpA X ok.1 (ok_Z ok hS) (ok_own ok hS) w1 w2 w3 w4 rfl A1 B1 (Or.inl ⟨rfl, rk⟩) h1 h2 h3 (by rw [n_clamp a31]; exact l1) (by rw [n_clamp b31]; exact l2) rfl l2 hF ((hI.2.2 _ hm).1 rfl)
    (g := mkF K.m pc Ls.toArray (.int nn :: .int dp :: .ref b :: .int sp :: .ref a :: st)) rfl (by rw [ok.2.2.1]; simp) rfl (hb ok.2.1 hd) hf (wt_le st) (by rw [nfw]; exact hl)
  have eu : ((List.range nn.toNatClampNeg).map fun i => vs.getD (sp.toNatClampNeg + i) Value.null) = (vs.drop sp.toNatClampNeg).take nn.toNatClampNeg := by
    refine List.ext_getElem (by simp; omega) fun i q1 q2 => ?_
    have q : sp.toNatClampNeg + i < vs.length := by simp at q1; omega
    simp [List.getD_eq_getElem?_getD, List.getElem?_eq_getElem q]
  rw [eu, hv] at B2
  have ul : us'.length = us.length := by rw [← hv]; simp; omega
  have D : Des G.Z G.a0 h' b true (arr t us') := AV.of_arv B2 (by rw [n_clamp b31, ul]) (by rw [ul]; exact b31) rk (B1' rfl)
  obtain ⟨U, u', g1, g2⟩ := nx T' vm0 k0 L ok X' hS (by rw [e']; exact Nat.le_trans hk Kp.1) hN (by rw [e']; exact hI.upd up (fun x hx c q => Kp.2.1 x c q (by simpa using hx)) Kp.1 D) hL F'
  exact ⟨U, u', st' _ g1, g2⟩
end Laws
end Jvm.Own
namespace Jvm.Own
open Sem ClassFile Op Lib Bundle Jvm.Stand Jvm.Free Jvm.LawKit Jvm.RoadKit
/-- the lookup from a class that declares the method finds it: no word of its own is needed where a class selects another of its methods -/
theorem same_of {Z : State} {a0 : Array Value} {C : String} {z z' : MethodName} (wi : (Cond.instanceMethod z).before a0 Z = true) (ws : (Cond.selects C z' z').before a0 Z = true) (hc : z'.cls = z.cls) (hy : z.cls ≠ "java/lang/invoke/MethodHandle" ∧ z.cls ≠ "java/lang/invoke/VarHandle") :
    (Cond.sameMethod z.cls z.cls z.name z.desc).before a0 Z = true := by
  obtain ⟨mk, meth, hn, -⟩ := Cond.instanceMethod_spec wi
  have hf := State.methodFound?_of_named hn hy
  have hcl := findClass_of_methodNamed hn
  obtain ⟨c2, r2, m2, q1, q2, q3, q4, kP, hkP, hkPi⟩ := Cond.selects_spec ws
  have hcl' := findClass_of_methodNamed q3
  rw [hc] at hcl'
  have e : mk.cls = m2.cls := by
    first | exact Option.some.inj (hcl.symm.trans hcl') | (exact (Option.some.inj (hcl.symm.trans hcl')))
  have hkP' : Z.vm.classes[mk.cls]? = some kP := by rw [e]; exact hkP
  have hn' : Z.methodNamed? ⟨z.cls, z.name, z.desc⟩ = some mk := hn
  simp [Cond.before, Cond.holds, Cond.value, hcl, hf, hn', hkP', hkPi]
end Jvm.Own
namespace Jvm.Own
open Sem ClassFile Op Lib Bundle Jvm.Stand Jvm.Free Jvm.LawKit Jvm.RoadKit
/-! ### a builder's bytes -/
def pad (xs : List Int32) (cap : Nat) : List Value := xs.map Value.int ++ List.replicate (cap - xs.length) (.int 0)
def grow (cap need : Nat) : Nat := if need ≤ cap then cap else cap + max (need - cap) (cap + 2)
section
variable {xs ys : List Int32} {cap cap' need a b : Nat}
theorem pad_len (h : xs.length ≤ cap) : (pad xs cap).length = cap := by simp [pad]; omega
theorem pad_nil (cap : Nat) : pad [] cap = List.replicate cap (.int 0) := by simp [pad]
theorem pad_grow (h : xs.length ≤ cap) (h2 : cap ≤ cap') : pad xs cap ++ List.replicate (cap' - cap) (.int 0) = pad xs cap' := by
  rw [pad, pad, List.append_assoc, List.replicate_append_replicate]; congr 2; omega
theorem pad_take (xs : List Int32) (cap : Nat) : (pad xs cap).take xs.length = xs.map Value.int := by
  rw [pad, List.take_left' (by simp)]
theorem pad_put (h : xs.length + ys.length ≤ cap) : (pad xs cap).take xs.length ++ ys.map Value.int ++ (pad xs cap).drop (xs.length + ys.length) = pad (xs ++ ys) cap := by
  rw [pad_take, pad, pad, List.drop_append, List.drop_eq_nil_of_le (by simp), List.nil_append, List.drop_replicate, List.map_append]
  congr 2
  simp; omega
theorem grow_le (h : need ≤ cap) : grow cap need = cap := if_pos h
theorem grow_ge : need ≤ grow cap need := by unfold grow; split <;> omega
theorem grow_mono : cap ≤ grow cap need := by unfold grow; split <;> omega
theorem grow_gt (h : ¬ need ≤ cap) : grow cap need = cap + max (need - cap) (cap + 2) := if_neg h
theorem n_lt_iff (ha : a < 2147483648) (hb : b < 2147483648) : a.toInt32 < b.toInt32 ↔ a < b := ⟨fun h => Nat.lt_of_not_le fun q => n_nlt q ha h, fun h => n_lt h hb⟩
theorem n_pos (h : 0 < a) (ha : a < 2147483648) : (0 : Int32) < a.toInt32 := n_lt (a := 0) h ha
theorem n_subnp (h : a ≤ b) (hb : b < 2147483648) : ¬ (0 : Int32) < a.toInt32 - b.toInt32 := by
  have e : a.toInt32 - b.toInt32 = -((b - a).toInt32) := by rw [← n_sub h, Int32.neg_sub]
  rw [e, Int32.lt_iff_toInt_lt]
  have h1 := n_toInt (a := b - a) (by omega)
  have h0 : (0 : Int32).toInt = 0 := rfl
  rw [Int32.toInt_neg, h1, h0]
  have : (-((b - a : Nat) : Int)).bmod (2 ^ 32) = -((b - a : Nat) : Int) := Int.bmod_eq_of_le (by omega) (by omega)
  omega
theorem n_ne (h : a ≠ b) (ha : a < 2147483648) (hb : b < 2147483648) : ¬ a.toInt32 = b.toInt32 := fun q => h (n_inj ha hb q)
theorem n_max (ha : a < 2147483648) (hb : b < 2147483648) : (h : a.toInt32 < b.toInt32) → max a b = b := fun h => Nat.max_eq_right (Nat.le_of_lt ((n_lt_iff ha hb).mp h))
theorem n_max' (ha : a < 2147483648) (hb : b < 2147483648) : (h : ¬ a.toInt32 < b.toInt32) → max a b = a := fun h => Nat.max_eq_left (Nat.le_of_not_lt fun q => h ((n_lt_iff ha hb).mpr q))
theorem n_min (ha : a < 2147483648) (hb : b < 2147483648) : (h : b.toInt32 < a.toInt32) → min a b = b := fun h => Nat.min_eq_right (Nat.le_of_lt ((n_lt_iff hb ha).mp h))
theorem n_min' (ha : a < 2147483648) (hb : b < 2147483648) : (h : ¬ b.toInt32 < a.toInt32) → min a b = a := fun h => Nat.min_eq_left (Nat.le_of_not_lt fun q => h ((n_lt_iff hb ha).mpr q))
theorem shl0 (n : Int32) : n <<< ((0 : Int32) &&& 31) = n := by
  rw [show ((0 : Int32) &&& 31) = 0 from by decide]
  apply Int32.toBitVec_inj.mp
  simp
theorem shr0' (n : Int32) : n >>> ((0 : Int32) &&& 31) = n := by
  rw [show ((0 : Int32) &&& 31) = 0 from by decide]; exact shr0 n
end
end Jvm.Own
namespace Jvm.Own
open Sem ClassFile Op Lib Bundle Jvm.Stand Jvm.Free Jvm.LawKit Jvm.RoadKit
theorem decl_of {Z : State} {a0 : Array Value} {z : MethodName} {bytes : ByteArray} {mL : Nat} {ret : Option FieldType} (wi : (Cond.instanceMethod z).before a0 Z = true) (wc : (Cond.code z bytes mL ret).before a0 Z = true) : (Cond.declares z).before a0 Z = true := by
  obtain ⟨m, meth, hn, hm, hs, -⟩ := Cond.instanceMethod_spec wi
  obtain ⟨meth', c, hm', -, -, -, -, -, -, hsig⟩ := Cond.code_spec hn wc
  cases hm.symm.trans hm'
  simp [Cond.before, Cond.holds, Cond.value, hn, hm, hs, hsig]
end Jvm.Own
namespace Jvm.Own
open Sem ClassFile Op Lib Bundle Jvm.Stand Jvm.Free Jvm.LawKit Jvm.RoadKit
theorem nf_cls {G : Gx} {C : String} {x z' : MethodName} (ws : (Cond.selects C z' z').before G.a0 G.Z = true) (hc : z'.cls = x.cls) : ∀ s : State, G.Z.Warmed39 s.vm → NotFace s x := fun s hZ r0 h0 => by
  obtain ⟨c2, r2, m2, q1, q2, q3, q4, kP, hkP, hkPi⟩ := Cond.selects_spec (mvT (args := #[]) hZ ws)
  have e1 := findClass_of_methodNamed h0
  have e2 := findClass_of_methodNamed q3
  rw [hc] at e2
  have e : r0.cls = m2.cls := Option.some.inj (e1.symm.trans e2)
  exact ⟨kP, by rw [e]; exact hkP, hkPi⟩
end Jvm.Own
namespace Jvm.Own
open Sem ClassFile Op Lib Bundle Jvm.Stand Jvm.Free Jvm.LawKit Jvm.RoadKit
theorem LX.not {Ts : List String} {Li L : List LitE} {t : String} (a : LX Ts Li L) (h : t ∉ Li.map fun q => q.2.2.1) (ht : t ∉ Ts) : t ∉ L.map fun q => q.2.2.1 := by
  obtain ⟨M, rfl, g⟩ := a
  intro q
  rw [List.map_append] at q
  rcases List.mem_append.mp q with q | q
  · obtain ⟨r, hr, e⟩ := List.mem_map.mp q
    exact ht (e ▸ g r hr)
  · exact h q
theorem perm22 {α : Type} {a b c d : α} {l : List α} : (a :: b :: c :: d :: l).Perm (c :: d :: a :: b :: l) :=
  List.perm_append_comm_assoc [a, b] [c, d] l
/-- the signs of a text, as a builder holds them -/
def txb (s : String) : List Int32 := s.toList.map fun c => Jvm.Lit.byteI c.toNat.toUInt16
theorem txb_map (s : String) : (s.toList.map fun c => Value.int (Jvm.Lit.byteI c.toNat.toUInt16)) = (txb s).map Value.int := by simp [txb, List.map_map, Function.comp_def]
theorem txb_len (s : String) : (txb s).length = s.toList.length := by simp [txb]
end Jvm.Own
namespace Jvm.Own
open Sem ClassFile Op Lib Bundle Jvm.Stand Jvm.Free Jvm.LawKit Jvm.RoadKit
section
variable {As R : List Ent} {x y e : Ent} {a : Addr} {vs : List Value}
theorem two_front (hx : x ∈ As) (hy : y ∈ As) (hne : y ≠ x) : ∃ R, As.Perm (x :: y :: R) := by
  obtain ⟨p, q, rfl⟩ := List.append_of_mem hx
  have hy' : y ∈ p ++ q := by
    rcases List.mem_append.mp hy with h | h
    · exact List.mem_append_left _ h
    · rcases List.mem_cons.mp h with h | h
      · exact absurd h hne
      · exact List.mem_append_right _ h
  obtain ⟨p', q', e⟩ := List.append_of_mem hy'
  refine ⟨p' ++ q', List.perm_middle.trans (List.Perm.cons _ ?_)⟩
  rw [e]
  exact List.perm_middle
theorem in_front (hp : As.Perm (x :: y :: R)) (hx : x.2.1 = true) (hy : y.2.1 = true) (he : e ∈ As) (hw : e.2.1 = false) : e ∈ R := by
  rcases List.mem_cons.mp (hp.mem_iff.mp he) with rfl | h
  · rw [hx] at hw; cases hw
  · rcases List.mem_cons.mp h with rfl | h
    · rw [hy] at hw; cases hw
    · exact h
theorem StrF.front (q : StrF As a vs) (hp : As.Perm (x :: y :: R)) (hx : x.2.1 = true) (hy : y.2.1 = true) : StrF R a vs := by
  obtain ⟨b, fs, us, h1, h2, h3, h4⟩ := q
  exact ⟨b, fs, us, in_front hp hx hy h1 rfl, h2, h3, in_front hp hx hy h4 rfl⟩
end
end Jvm.Own
namespace Jvm.Own
open Sem ClassFile Op Lib Bundle Jvm.Stand Jvm.Free Jvm.LawKit Jvm.RoadKit
section Laws
variable {G : Gx} {K : Kx} {y : MethodName} {code : ByteArray} {ret : Option FieldType} {R : Room} {Q : Qx} {As As' : List Ent} {Li Li' : List LitE} {cells slots pc pc' : Nat} {Ls Ls' : List Slot} {st st' : List Value} {idx : Nat} {a b : Addr} {vs : List Value}
/-- a byte[] of the walk's own is cloned -/
theorem W.cloneB (cap : Nat) (hd : decode code pc = .ok (.invokevirtual idx, 3)) (w1 : (Cond.methodLink y.cls idx ⟨"[B", "clone", "()Ljava/lang/Object;"⟩).before G.a0 G.Z = true) (w2 : (Cond.sameMethod "[B" "java/lang/Object" "clone" "()Ljava/lang/Object;").before G.a0 G.Z = true) (w3 : (Cond.native ⟨"java/lang/Object", "clone", "()Ljava/lang/Object;"⟩).before G.a0 G.Z = true)
    (w4 : (Cond.instanceMethod ⟨"java/lang/Object", "clone", "()Ljava/lang/Object;"⟩).before G.a0 G.Z = true) (w5 : (Cond.selects "[B" ⟨"[B", "clone", "()Ljava/lang/Object;"⟩ ⟨"java/lang/Object", "clone", "()Ljava/lang/Object;"⟩).before G.a0 G.Z = true) (w6 : (Cond.castable "[B" "java/lang/Cloneable").before G.a0 G.Z = true)
    (hm : (a, true, arr .byte vs) ∈ As) (hcap : vs.length ≤ cap) (hf : 1 ≤ R.frames) (hl : wt st + 14 ≤ R.locals) (hc : cells + 1 ≤ R.cells) (hs : slots + cap ≤ R.slots)
    (nx : ∀ o, W G K y code ret R Q ((o, true, arr .byte vs) :: As) Li (cells + 1) (slots + cap) (pc + 3) Ls (.ref o :: st)) : W G K y code ret R Q As Li cells slots pc Ls (.ref a :: st) := by
  intro T vm0 k0 locs ok X hS hk hN hI hL hF
  obtain ⟨c, A, e1, e2, e3, e4⟩ := hI.av hm
  have hB := (e4 rfl).2 rfl
  obtain ⟨hst, k, hkk, comp, hkind⟩ := A.2.1
  have hvm : c.vm.isStatics = false := by
    cases hq : c.vm <;> first | rfl | exact absurd hq (hst _)
  have E : Exa G.Z T.heap a "[B" := ⟨c, k, A.1, hB, hkk, hvm, fun q => by rw [hkind] at q; cases q⟩
  have F : FitC G.Z c := fun i v hv => by
    have hmem : v ∈ vs := by
      rw [← e1]
      obtain ⟨hi, rfl⟩ := Array.getElem?_eq_some_iff.mp hv
      simp
    have q := e3 v hmem
    simp [State.fitsSlot, State.slotType?, hkk, hkind, q]
  obtain ⟨T', h', X', e', Ex, A', E', st'⟩ := cloneA X ok.1 (ok_Z ok hS) (ok_own ok hS) w1 w2 w3 w4 w5 w6 rfl A E F (g := mkF K.m pc Ls.toArray (.ref a :: st)) rfl (by rw [ok.2.2.1]; simp) rfl (hb ok.2.1 hd) hf (wt_le st) hl (cap := cap) (by rw [size_of e1]; exact hcap) hc hs
  have hD : Des G.Z G.a0 h' T.heap.size true (arr .byte vs) := ⟨_, A', e1, e2, e3, fun _ => ⟨(fun C q => by cases q), fun _ => hB⟩⟩
  obtain ⟨U, u, g1, g2⟩ := nx T.heap.size T' vm0 k0 locs ok X' hS (by rw [e']; exact Nat.le_trans hk Ex.1) hN (by rw [e']; exact hI.push Ex hD) hL hF
  exact ⟨U, u, st' _ g1, g2⟩
/-- a byte[] of the walk's own is of the class "[B" -/
theorem W.castB {D : String} (wl : (Cond.classLink y.cls idx "[B").before G.a0 G.Z = true) (hd : decode code pc = .ok (.checkcast idx, 3)) (hm : (a, true, arr .byte vs) ∈ As)
    (nx : W G K y code ret R Q As Li cells slots (pc + 3) Ls (.ref a :: st)) : W G K y code ret R Q As Li cells slots pc Ls (.ref a :: st) := by
  intro T vm0 k0 locs ok X hS hk hN hI hL hF
  obtain ⟨c, A, e1, e2, e3, e4⟩ := hI.av hm
  have hB := (e4 rfl).2 rfl
  obtain ⟨hst, k, hkk, comp, hkind⟩ := A.2.1
  have hvm : c.vm.isStatics = false := by
    cases hq : c.vm <;> first | rfl | exact absurd hq (hst _)
  have E : Exa G.Z T.heap a "[B" := ⟨c, k, A.1, hB, hkk, hvm, fun q => by rw [hkind] at q; cases q⟩
  obtain ⟨T', X', e', st'⟩ := castY X ok.1 (ok_Z ok hS) (ok_own ok hS) wl rfl (Ins.self E) (g := mkF K.m pc Ls.toArray (.ref a :: st)) rfl rfl (hb ok.2.1 hd)
  obtain ⟨U, u, h1, h2⟩ := nx T' vm0 k0 locs ok X' hS (by rw [e']; exact hk) hN (by rw [e']; exact hI) hL hF
  exact ⟨U, u, st' _ h1, h2⟩
end Laws
/-! ### all String constants that the walk has loaded are here -/
section LAs
variable {As As' : List Ent} {Li : List LitE} {a b : Addr} {own text : String} {idx : Nat} {sc sc' : SC} {e : Ent}
def LA (As : List Ent) (Li : List LitE) : Prop := ∀ q ∈ Li, ∃ b, (q.2.2.2, false, obj "java/lang/String" litF [.ref b, .int 0]) ∈ As ∧ (b, false, arr .byte ((txb q.2.2.1).map Value.int)) ∈ As
theorem LA.nil (As : List Ent) : LA As [] := fun _ h => nomatch h
theorem LA.stay (h : LA As Li) (s : Stay As As') : LA As' Li := fun q hq => by obtain ⟨b, h1, h2⟩ := h q hq; exact ⟨b, s _ h1 rfl, s _ h2 rfl⟩
theorem LA.sub (h : LA As Li) (s : Sub As As') : LA As' Li := h.stay s.stay
theorem LA.cons1 (h : LA As Li) : LA (e :: As) Li := h.sub (Sub.cons (Sub.refl _))
theorem LA.lit (h : LA As Li) : LA ((a, false, obj "java/lang/String" litF [.ref b, .int 0]) :: (b, false, arr .byte ((txb text).map Value.int)) :: As) ((own, idx, text, a) :: Li) := fun q hq => by
  rcases List.mem_cons.mp hq with rfl | hq
  · exact ⟨b, List.Mem.head _, List.Mem.tail _ (List.Mem.head _)⟩
  · obtain ⟨c, h1, h2⟩ := h q hq; exact ⟨c, List.Mem.tail _ (List.Mem.tail _ h1), List.Mem.tail _ (List.Mem.tail _ h2)⟩
theorem LA.g (h : LA As Li) (text : String) : LitG As Li text ((txb text).map Value.int) := fun q hq e => by subst e; exact h q hq
theorem LA.perm (h : LA As Li) (p : As.Perm As') : LA As' Li := h.sub fun e he => p.mem_iff.mp he
theorem LA.front {x y : Ent} {R : List Ent} (h : LA As Li) (hp : As.Perm (x :: y :: R)) (hx : x.2.1 = true) (hy : y.2.1 = true) : LA R Li := fun q hq => by
  obtain ⟨b, h1, h2⟩ := h q hq; exact ⟨b, in_front hp hx hy h1 rfl, in_front hp hx hy h2 rfl⟩
end LAs
end Jvm.Own
namespace Jvm.Own
open Sem ClassFile Op Lib Bundle Jvm.Stand Jvm.Free Jvm.LawKit Jvm.RoadKit
section Laws
variable {G : Gx} {K : Kx} {y : MethodName} {code : ByteArray} {ret : Option FieldType} {R : Room} {Q : Qx} {As As' : List Ent} {Li Li' : List LitE} {cells slots pc pc' : Nat} {Ls Ls' : List Slot} {st st' : List Value} {idx : Nat}
/-- a lambda that captures nothing: its site hands out its one object -/
theorem W.lam0 {σ : Lambda.Shape} (hd : decode code pc = .ok (.invokedynamic idx, 5)) (wl : (Cond.lambdaSite y pc idx σ).before G.a0 G.Z = true) (hc : σ.captured = []) (hw : wt st + 3072 ≤ R.locals)
    (nx : ∀ a, W G K y code ret R Q As Li cells slots (pc + 5) Ls (.ref a :: st)) : W G K y code ret R Q As Li cells slots pc Ls st := by
  intro T vm0 k0 locs ok X hS hk hN hI hL hF
  have hZ : G.Z.Warmed39 vm0 := ok_Z ok hS
  obtain ⟨cK, one, hat⟩ := Cond.lambdaSite_spec wl
  obtain ⟨m', kS, cfS, i0, p0, lk, hm', hkS, hcfS, -, -, hfind, -, -, hlk⟩ := State.lambdaAt?_spec hat
  obtain ⟨a, cell, rfl, -⟩ : ∃ a cell, lk = .constant a ∧ one = some a ∧ σ.captured = [] ∧ G.Z.heap[a]? = some cell ∧ cell.cls = cK ∧ cell.vm = .none ∧ cell.slots = #[] := by
    rcases hlk with h | ⟨-, -, h⟩
    · exact h
    · exact absurd hc h
  have hn := ok.2.2.2.2.2.2.2.2.1
  have e1 : (K.s.setVm K.s.vm).methodNamed? y = G.Z.methodNamed? y := by
    have q := State.methodNamed?_setVm (s := G.Z) (vm' := K.s.vm) ok.2.2.2.1.alike y
    rw [← q]
    exact congrFun (State.methodNamed?_of_vm rfl) y
  have e2 : K.s.methodNamed? y = (K.s.setVm K.s.vm).methodNamed? y := congrFun (State.methodNamed?_of_vm rfl) y
  have em : m' = K.m := by
    rw [e2, e1, hm'] at hn
    exact Option.some.inj hn
  subst em
  obtain ⟨k', hk', he'⟩ := hZ.alike.2.2 _ _ hkS
  have hsite : (k'.callSites.find? fun y => y.1 == K.m.idx && y.2.1 == pc) = some (i0, p0, .constant a) := by rw [he']; exact hfind
  obtain ⟨U, u, h1, h2⟩ := nx a T vm0 k0 locs ok X hS hk hN hI hL hF
  refine ⟨U, u, X.lambdaConstant ok.1 (g := mkF K.m pc Ls.toArray st) rfl (by rw [ok.2.2.1]; simp) (hb ok.2.1 hd) (s := K.s.setVm vm0) hk' hsite ?_ h1, h2⟩
  have hp := X.admits.platform
  rw [hp]
  show 2 * 0 + (st.map fun v => v.category).sum + 3072 ≤ R.locals
  simpa [wt] using hw
end Laws
end Jvm.Own
namespace Jvm.Own
open Sem ClassFile Op Lib Bundle Jvm.Stand Jvm.Free Jvm.LawKit Jvm.RoadKit
section Laws
variable {G : Gx} {K : Kx} {y : MethodName} {code : ByteArray} {ret : Option FieldType} {R : Room} {Q : Qx} {As As' : List Ent} {Li Li' : List LitE} {cells slots pc pc' : Nat} {Ls Ls' : List Slot} {st st' : List Value} {idx : Nat} {a b : Addr} {vs : List Value}
/-- a String that stood at the start comes to the list -/
theorem W.oldStr (E : Exa G.Z G.Z.heap a STR) (F1 : Fld G.Z G.Z.heap a STR "value" "[B" (.ref b)) (F2 : Fld G.Z G.Z.heap a STR "coder" "B" (.int 0)) (A : AV G.Z G.Z.heap b false .byte vs)
    (nx : W G K y code ret R Q ((a, false, obj STR litF [.ref b, .int 0]) :: (b, false, arr .byte vs) :: As) Li cells slots pc Ls st) : W G K y code ret R Q As Li cells slots pc Ls st := by
  intro T vm0 k0 locs ok X hS hk hN hI hL hF
  have E0 := hI.old
  have D1 : Des G.Z G.a0 G.Z.heap a false (obj STR litF [.ref b, .int 0]) := ⟨E, rfl, fun i f v hf hv => by
    match i, hf, hv with
    | 0, hf, hv => cases hf; cases hv; exact F1
    | 1, hf, hv => cases hf; cases hv; exact F2, fun q => nomatch q⟩
  have D2 : Des G.Z G.a0 G.Z.heap b false (arr .byte vs) := A
  have g1 := D1.lt
  have g2 := D2.lt
  exact nx T vm0 k0 locs ok X hS hk hN (hI.two (D1.cell fun c h => E0.2 _ c h) (D2.cell fun c h => E0.2 _ c h) fun e he hw => by
    have g3 := (hI.2.2 e he).1 hw
    exact ⟨Nat.ne_of_lt (Nat.lt_of_lt_of_le g1 g3), Nat.ne_of_lt (Nat.lt_of_lt_of_le g2 g3)⟩) hL hF
end Laws
theorem pad_set {xs : List Int32} {cap : Nat} {z : Int32} (h : xs.length < cap) : (pad xs cap).set xs.length (.int z) = pad (xs ++ [z]) cap := by
  obtain ⟨k, hk⟩ : ∃ k, cap - xs.length = k + 1 := ⟨cap - xs.length - 1, by omega⟩
  rw [pad, pad, hk, List.set_append_right _ _ (by simp), List.length_map, Nat.sub_self, List.replicate_succ, List.set_cons_zero, List.map_append, List.append_assoc, List.length_append, show cap - (xs.length + [z].length) = k by simp; omega]
  rfl
theorem n_pred (m : Nat) : (m + 1).toInt32 + -1 = m.toInt32 := by
  rw [← n_succ, Int32.add_assoc, show (1 : Int32) + -1 = 0 from by decide, Int32.add_zero]
end Jvm.Own
namespace Jvm.Own
open Sem ClassFile Op Lib Bundle Jvm.Stand Jvm.Free Jvm.LawKit Jvm.RoadKit
/-- a private method is what its class selects: no word of its own is needed where a class selects another of that class's methods -/
theorem sel_priv {Z : State} {a0 : Array Value} {C : String} {z z' : MethodName} (wi : (Cond.instanceMethod z).before a0 Z = true) (wp : (Cond.privateMethod z).before a0 Z = true) (ws : (Cond.selects C z' z').before a0 Z = true) (hc : z'.cls = z.cls) (hy : z.cls ≠ "java/lang/invoke/MethodHandle" ∧ z.cls ≠ "java/lang/invoke/VarHandle") :
    (Cond.selects z.cls z z).before a0 Z = true := by
  obtain ⟨mk, meth, hn, hm, -⟩ := Cond.instanceMethod_spec wi
  have hf := State.methodFound?_of_named hn hy
  have hcl := findClass_of_methodNamed hn
  have hpv := Cond.privateMethod_at wp mk meth hn hm
  have hsel : selectMethod {} Z.vm mk.cls mk = .method mk := selectMethod_private hm hpv
  obtain ⟨c2, r2, m2, q1, q2, q3, q4, kP, hkP, hkPi⟩ := Cond.selects_spec ws
  have hcl' := findClass_of_methodNamed q3
  rw [hc] at hcl'
  have e : mk.cls = m2.cls := Option.some.inj (hcl.symm.trans hcl')
  have hkP' : Z.vm.classes[mk.cls]? = some kP := by rw [e]; exact hkP
  simp [Cond.before, Cond.holds, Cond.value, hcl, hf, hn, hsel, hkP', hkPi]
end Jvm.Own
namespace Jvm.Own
open Sem ClassFile Op Lib Bundle Jvm.Stand Jvm.Free Jvm.LawKit Jvm.RoadKit Jvm.Free.Exc LibCode.Throwable
/-! ### a Throwable is made: what its constructor asks of the tables, told of the class that is made (C), not of Throwable itself -/
def thA (C : String) : List Jvm.Cond := [.initialized tN, .superclass tN "java/lang/Object", .instanceMethod tFill, .codeSync tFill Fill.code 1 (some (.object tN)), .instanceMethod tFill0, .native tFill0, .instanceMethod tInit0, .code tInit0 Init0.code 1 none,
  .instanceMethod oInit, .code oInit ⟨#[0xb1]⟩ 1 none, .methodLink tN 1 oInit, .methodLink tN 27 tFill, .methodLink tN 202 tFill0, .fieldLink tN 7 tN "cause" thD, .lays C tN "cause" thD, .fieldLink tN 17 tN "stackTrace" steD, .lays C tN "stackTrace" steD,
  .fieldLink tN 24 tN "suppressedExceptions" listD, .lays C tN "suppressedExceptions" listD, .fieldLink tN 13 tN "UNASSIGNED_STACK" steD, .laysStatic tN "UNASSIGNED_STACK" steD, .fieldLink tN 20 tN "SUPPRESSED_SENTINEL" listD, .laysStatic tN "SUPPRESSED_SENTINEL" listD,
  .fieldLink tN 31 tN "detailMessage" msgD, .lays C tN "detailMessage" msgD, .lays tN tN "detailMessage" msgD, .instanceMethod (initS tN), .code (initS tN) InitS.code 2 none, .fieldLink tN 198 tN "backtrace" obD, .lays C tN "backtrace" obD, .lays C tN "depth" "I",
  .selects C tFill0 tFill0, .selects C tFill tFill, .arrayOver (.object "java/lang/Object"), .soleField tN "backtrace", .soleField tN "depth"]
theorem thA_ok {C : String} : (thA C).all xOk = true := rfl
theorem sig_of {x : MethodName} {sg : MethodDescriptor} {ps : List FieldType} (h : parseMethodDescriptor x.desc = some sg) (e : (parseMethodDescriptor x.desc).map (·.parameters) = some ps) : sg.parameters = ps := by
  rw [h] at e; exact Option.some.inj e
theorem links_of {C : String} {args : Array Value} {s : State} {pl : Platform} (howns : pl.frameOwnsMonitors = true) (hfin : pl.finalization = false) (hpl : pl.magicAccessors = ({} : Platform).magicAccessors) {cC : ClassId} (hC : s.vm.findClass C = some cC) (h : ∀ c ∈ thA C, c.before args s = true) :
    ∃ (T : ThrowableC) (Z : Init0T), T.Links pl s ∧ Z.Laid T.toThrowableT ∧ Ties T Z s := by
  have w : ∀ {d : Jvm.Cond}, d ∈ thA C → d.holds args s none s [] = true := fun hd => h _ hd
  obtain ⟨⟨cT, i0⟩, m0, n0, q0, r1, r2, r3, r4⟩ := Cond.native_spec (w (d := .native tFill0) (by simp [thA]))
  have found : s.vm.findClass tN = some cT := findClass_of_methodNamed n0
  obtain ⟨kT, hkT, hnm⟩ := Vm.findClass_spec found
  obtain ⟨_, k1, _, _, hk1, _, _, hord, _, hni⟩ := Cond.superclass_spec found (w (d := .superclass tN "java/lang/Object") (by simp [thA]))
  cases hkT.symm.trans hk1
  obtain ⟨iF, mF, nF, qF, atF, f1, f2, -, -⟩ := Cond.ownMethod (x := tFill) found hkT (w (d := .instanceMethod tFill) (by simp [thA]))
  obtain ⟨mF', cF, qF', g1, g2, g3, g4, g5, -, g6⟩ := Cond.codeSync_spec nF (w (d := .codeSync tFill Fill.code 1 (some (.object tN))) (by simp [thA]))
  cases qF.symm.trans qF'
  obtain ⟨j0, m0', n0', q0', at0, s1, s2, s3, s4⟩ := Cond.ownMethod (x := tFill0) found hkT (w (d := .instanceMethod tFill0) (by simp [thA]))
  cases n0.symm.trans n0'
  cases q0.symm.trans q0'
  obtain ⟨iZ, mZ, nZ, qZ, atZ, -, -, -, -⟩ := Cond.ownMethod (x := tInit0) found hkT (w (d := .instanceMethod tInit0) (by simp [thA]))
  obtain ⟨mZ', cZ, qZ', z1, z2, z3, -, z4, -, -⟩ := Cond.code_spec nZ (w (d := .code tInit0 Init0.code 1 none) (by simp [thA]))
  cases qZ.symm.trans qZ'
  obtain ⟨mO, methO, nO, qO, o1, o2⟩ := Cond.instanceMethod_spec (w (d := .instanceMethod oInit) (by simp [thA]))
  obtain ⟨methO', cO, qO', o3, o4, o5, -, o6, -, o7⟩ := Cond.code_spec nO (w (d := .code oInit ⟨#[0xb1]⟩ 1 none) (by simp [thA]))
  cases qO.symm.trans qO'
  obtain ⟨kO, hkO, hnO⟩ := Vm.findClass_spec (findClass_of_methodNamed nO)
  obtain ⟨o8, o9⟩ := name_of_methodNamed nO qO
  obtain ⟨c1, p1, cf, l1, u1, hcf, v1⟩ := Cond.linkedMethod found hkT nO (w (d := .methodLink tN 1 oInit) (by simp [thA])) pl hpl
  obtain ⟨c27, p27, cf', l27, u27, hcf', v27⟩ := Cond.linkedMethod found hkT nF (w (d := .methodLink tN 27 tFill) (by simp [thA])) pl hpl
  cases hcf.symm.trans hcf'
  obtain ⟨c202, p202, cf', l202, u202, hcf'', v202⟩ := Cond.linkedMethod found hkT n0 (w (d := .methodLink tN 202 tFill0) (by simp [thA])) pl hpl
  cases hcf.symm.trans hcf''
  obtain ⟨c7, i7, x7, a71, a72, a73, a74, a75, a76, a77, a78⟩ := Cond.ownField (C' := C) (t := .object tN) found hkT (by decide +kernel) (w (d := .fieldLink tN 7 tN "cause" thD) (by simp [thA])) (w (by simp [thA])) pl hpl
  obtain ⟨c17, i17, x17, b1, b2, b3, b4, b5, b6, b7, b8⟩ := Cond.ownField (C' := C) (t := .array (.object "java/lang/StackTraceElement")) found hkT (by decide +kernel) (w (d := .fieldLink tN 17 tN "stackTrace" steD) (by simp [thA])) (w (by simp [thA])) pl hpl
  obtain ⟨c24, i24, x24, d1, d2, d3, d4, d5, d6, d7, d8⟩ := Cond.ownField (C' := C) (t := .object "java/util/List") found hkT (by decide +kernel) (w (d := .fieldLink tN 24 tN "suppressedExceptions" listD) (by simp [thA])) (w (by simp [thA])) pl hpl
  obtain ⟨c31, i31, x31, e1, e2, e3, e4, e5, e6, e7, e8⟩ := Cond.ownField (C' := C) (t := .object "java/lang/String") found hkT (by decide +kernel) (w (d := .fieldLink tN 31 tN "detailMessage" msgD) (by simp [thA])) (w (by simp [thA])) pl hpl
  obtain ⟨c13, i13, x13, aS, cellS, t1, t2, t3, t4, -, -, t5, t6, t7, -, -, t8⟩ := Cond.ownStatic (t := .array (.object "java/lang/StackTraceElement")) found hkT (by decide +kernel) (w (d := .fieldLink tN 13 tN "UNASSIGNED_STACK" steD) (by simp [thA])) (w (by simp [thA])) pl hpl
  obtain ⟨c20, i20, x20, _, _, y1, y2, y3, y4, -, -, -, -, -, -, -, y5⟩ := Cond.ownStatic (t := .object "java/util/List") found hkT (by decide +kernel) (w (d := .fieldLink tN 20 tN "SUPPRESSED_SENTINEL" listD) (by simp [thA])) (w (by simp [thA])) pl hpl
  have apart : x17.slot ≠ x24.slot := fun q => by
    obtain ⟨kC, hkC, -⟩ := Vm.findClass_spec hC
    obtain ⟨-, e17, he17, hn17⟩ := Cond.laysAt hC hkC b8 (w (d := .lays C tN "stackTrace" steD) (by simp [thA]))
    obtain ⟨-, e24, he24, hn24⟩ := Cond.laysAt hC hkC d8 (w (d := .lays C tN "suppressedExceptions" listD) (by simp [thA]))
    rw [q] at he17
    cases he17.symm.trans he24
    rw [hn17, b6, d6] at hn24
    exact absurd hn24 (by decide)
  refine ⟨⟨⟨cT, kT, cT, aS, iF, i0, iF, mO, kO, mF, m0, mF, methO, cF, cF, cO, x7, x7, x17, x7, x24, x31, x13, x20⟩, cf, c1, p1, c27, p27, c202, p202, c7, i7, c13, i13, c17, i17, c20, i20, c24, i24⟩, ⟨iZ, mZ, cZ⟩, ?_, ⟨atZ, z1, z2, z3, z4⟩,
    ⟨found, nF, n0, nZ, o5, hord, a78, b8, d8, t8, y5, ⟨i31, e8⟩, e7, a76, b6, d6, a77, b7, d7, cellS, t6, t7⟩⟩
  exact ⟨howns, hfin, hkT, hnm, Vm.findClass_boot found hkT, hni, Cond.initialized_spec found hkT (w (d := .initialized tN) (by simp [thA])), t5, atF, g1, g2, g3, g5, f1, f2, g4, sig_of g6 (by decide +kernel), at0, s3, s4, sig_of r4 (by decide +kernel), s1, r1, r2, r3, s2, b4, b5, t4,
    hkO, hnO, qO, o8, o1, o2, (by rw [o9]; exact lookupSpecial_of_named nO qO o1), (by rw [sig_of o7 (ps := []) (by decide +kernel)]; rfl), o3, o4, o6, a74, a75, y4, d4, d5, e4, e5, apart, hcf, l1, u1, v1, l27, u27, v27, l202, u202, v202, a71, a72, a73, t1, t2, t3, b1, b2, b3, y1, y2, y3, d1, d2, d3⟩
end Jvm.Own
namespace Jvm.Own
open Sem ClassFile Op Lib Bundle Jvm.Stand Jvm.Free Jvm.LawKit Jvm.RoadKit Jvm.Free.Exc LibCode.Throwable
section Thr
variable {G : Gx} {As As' : List Ent} {Li : List LitE} {a : Addr} {C : String} {fs fs' : List Fd} {vs vs' : List Value} {msg : Value} {Z s : State} {h h' : Heap}
/-- what is known of the fields behind a Throwable's constructor: the message, the cause, and what isn't Throwable's -/
def ExF (a : Addr) (msg : Value) (fs : List Fd) (vs : List Value) (fs' : List Fd) (vs' : List Value) : Prop :=
  vs'.length = fs'.length ∧ ∀ (i : Nat) (f : Fd) (v : Value), fs'[i]? = some f → vs'[i]? = some v →
    (f = (tN, "detailMessage", msgD) ∧ v = msg) ∨ (f = (tN, "cause", thD) ∧ v = .ref a) ∨ (FAt fs vs f.1 f.2.1 f.2.2 v ∧ ∀ nd ∈ sixNames, f.2.1 ≠ nd.1)
theorem takes_as {cell : Cell} {c : ClassId} {k : Class} {f : Field} {v : Value} (hc : cell.cls = c) (hv : cell.vm = .none) (hs : cell.slots.size = k.instanceTypes.size) (t : Takes s (freshCell c k) f v) : Takes s cell f v := by
  subst hc
  obtain ⟨t1, t2⟩ := t
  refine ⟨?_, ?_⟩
  · rw [hs]; simpa [freshCell] using t1
  · rw [hv]; exact t2
/-- the slot of a field, by the walk's tables and by the start's -/
theorem slot_as (hal : Z.vm.Alike s.vm) {O n d : String} {c i : Nat} {k : Class} {f : Field} (hf : s.fieldFound? O n d = some (c, k, i, f)) : RoadKit.slotOf Z O n d = f.slot ∧ ∃ k', Z.fieldFound? O n d = some (c, k', i, f) := by
  obtain ⟨c2, k2, i2, h2⟩ := Jvm.Free.BdW.found_ride (U := s) (U' := Z) hal.symm ⟨c, k, i, hf⟩
  refine ⟨by simp [RoadKit.slotOf, h2], ?_⟩
  obtain ⟨k', h3, -⟩ := State.fieldFound?_setVm (s := s) (vm' := Z.vm) hal.symm hf
  refine ⟨k', ?_⟩
  rw [← h3]
  rfl
/-- a static's cell, by the start's tables, is the one that the walk's tables name -/
theorem sta_as (hal : Z.vm.Alike s.vm) {O n d : String} {c i : Nat} {k : Class} {f : Field} {v : Value} {aS : Addr} (hf : s.fieldFound? O n d = some (c, k, i, f)) (hk : s.vm.classes[c]? = some k) (hs : k.statics = some aS) (S : Sta Z h O n d v) : ∃ cell : Cell, h[aS]? = some cell ∧ cell.vm.isStatics = true ∧ cell.slots[f.slot]? = some v := by
  obtain ⟨-, k', hZ⟩ := slot_as hal hf
  obtain ⟨cf, i2, k2, f2, st, cell, h1, h2, h3, h4, h5, h6, h7⟩ := S
  cases hZ.symm.trans h1
  obtain ⟨hk2, -⟩ := State.fieldFound?_spec h1
  obtain ⟨k3, h8, e⟩ := hal.2.2 _ _ hk2
  cases hk.symm.trans h8
  have : k.statics = k'.statics := by rw [e]
  rw [hs, h4] at this
  cases this
  exact ⟨cell, h5, h6, h7⟩
abbrev thR : Room := { frames := 3, cells := 1, slots := 2752, locals := 42 }
set_option maxHeartbeats 1000000 in
theorem thrBack {p : Program} {e : Env} {below : List Frame} {sargs : Array Value} {len Wt n : Nat} {R : Room} {vU vN : Value} (hexec : p.tables.exec = Jvm.exec) (hnw : G.nw = false) (hst : G.l.stackTraces = true) (hZ : G.Z.Warmed39 s.vm) (hT0 : ThS G.Z s.heap) (hTK : s.vm.MethodsKnown) (hBl : s.vm.FramesKnown below) (hLs : LI G.Z s.vm Li)
    (hA : ∀ d ∈ thA C, d.before G.a0 G.Z = true) (wi : (Cond.instantiable C n).before G.a0 G.Z = true) (hU : Sta G.Z G.Z.heap tN "UNASSIGNED_STACK" steD vU) (rU : vU.isRef = true) (nU : vU ≠ .null) (hN : Sta G.Z G.Z.heap tN "SUPPRESSED_SENTINEL" listD vN) (rN : vN.isRef = true)
    (u : Upd As a (obj C fs vs) (obj C fs' vs') As') (hB : FAt fs vs tN "backtrace" obD .null) (hM0 : ∃ v, FAt fs vs tN "detailMessage" msgD v) (hC0 : ∃ v, FAt fs vs tN "cause" thD v) (hx : ExF a msg fs vs fs' vs') (hL' : LaidAll G.Z G.a0 C fs') (hmsg : msg.isRef = true) (hRf : 2 < R.frames) (hRl : Wt + 42 ≤ R.locals) :
    BackS G.l R p e below s sargs (initS tN) len Wt (PreC G As Li R thR #[.ref a, msg]) (PostC G thR (fun v A L => v = none ∧ A = As' ∧ Li = L)) := by
  intro m meth c A g ig mk aa X hg hsize hdg hW hn hp
  obtain ⟨T', locs, cells, slots⟩ := A
  obtain ⟨rfl, hI, -, hc, hs⟩ := hp
  dsimp only [Pt.U, Pt.locs, Pt.cells, Pt.slots] at *
  have hm := u.mem
  have hal := hZ.alike
  have ha := (hI.2.2 _ hm).1 rfl
  have w : ∀ {d : Jvm.Cond}, d ∈ thA C → d.before sargs s = true := fun {d} hd => mvX hT0 hZ (List.all_eq_true.mp thA_ok d hd) (hA d hd)
  have howns : e.platform.frameOwnsMonitors = true := by rw [X.admits.platform]
  have hfin : e.platform.finalization = false := by rw [X.admits.platform]
  have hpl : e.platform.magicAccessors = ({} : Platform).magicAccessors := by rw [X.admits.platform]
  have htr : e.platform.stackTraces = true := by rw [X.admits.platform]; exact hst
  obtain ⟨cell, kZ, hcell, hfZ, hkZ, hns, hsz⟩ := hI.exa hm
  obtain ⟨cell', hcell', hvm, hmon⟩ := ((hI.2.2 _ hm).2.2.2.2 rfl).2
  cases hcell.symm.trans hcell'
  have hC : s.vm.findClass C = some cell.cls := by rw [hal.findClass]; exact hfZ
  obtain ⟨kX, hkX, ekX⟩ := hal.2.2 _ _ hkZ
  obtain ⟨cI, kI, hcI, hkI, hord, -⟩ := Cond.instantiable_spec (mvT (args := sargs) hZ wi)
  cases hC.symm.trans hcI
  cases hkX.symm.trans hkI
  have hsize' : cell.slots.size = kX.instanceTypes.size := by
    rw [hsz (by rw [ekX] at hord; exact hord), ekX]
  obtain ⟨T, Z0, L, -, Y⟩ := links_of howns hfin hpl hC fun d hd => w hd
  obtain ⟨Z1, M, LZ, LM, hnZ⟩ := Init0T.ofS_atoms (args := sargs) hpl L Y fun d hd => w (by simp only [throwableSAtoms, List.mem_cons, List.not_mem_nil, or_false] at hd; rcases hd with rfl | rfl | rfl | rfl <;> simp [thA])
  cases hn.symm.trans (X.named hnZ)
  -- the statics
  obtain ⟨cellS, hcS, hisS, hvU⟩ := sta_as hal Y.unassigned L.cls L.statics (hU.ext hI.old)
  obtain ⟨cellS', hcS', -, hvN⟩ := sta_as hal Y.sentinel L.cls L.statics (hN.ext hI.old)
  cases hcS.symm.trans hcS'
  have hneS : T.aS ≠ a := fun q => by rw [q] at hcS; cases hcS.symm.trans hcell; rw [hns] at hisS; cases hisS
  have hknS : cellS.vm ≠ .unknown := fun q => by rw [q] at hisS; cases hisS
  -- the slots
  obtain ⟨iM, hffM⟩ := Y.msg
  obtain ⟨c198, i198, fB, k1, k2, k3, k4, -, nB, tB, ffB⟩ := Cond.ownField (C' := C) (t := .object "java/lang/Object") Y.found L.cls (by decide +kernel) (w (d := .fieldLink tN 198 tN "backtrace" obD) (by simp [thA])) (w (by simp [thA])) e.platform hpl
  obtain ⟨tyC, dC, eC, nC⟩ := Cond.laysAt hC hkX Y.cause (w (d := .lays C tN "cause" thD) (by simp [thA]))
  obtain ⟨tyS, dS, eS, nS⟩ := Cond.laysAt hC hkX Y.stack (w (d := .lays C tN "stackTrace" steD) (by simp [thA]))
  obtain ⟨tyP, dP, eP, nP⟩ := Cond.laysAt hC hkX Y.supp (w (d := .lays C tN "suppressedExceptions" listD) (by simp [thA]))
  obtain ⟨tyM, dM, eM, nM⟩ := Cond.laysAt hC hkX hffM (w (d := .lays C tN "detailMessage" msgD) (by simp [thA]))
  obtain ⟨tyB, dB, eB, nB'⟩ := Cond.laysAt hC hkX ffB (w (d := .lays C tN "backtrace" obD) (by simp [thA]))
  obtain ⟨cO, kO, comp, fb, fd, hO, hkO, hkindO, hfb, hfd, htB, htD⟩ := traceWords hC hkX hord Y.found L.cls (w (d := .arrayOver (.object "java/lang/Object")) (by simp [thA])) (w (d := .soleField tN "backtrace") (by simp [thA])) (w (d := .soleField tN "depth") (by simp [thA])) (w (d := .lays C tN "backtrace" obD) (by simp [thA])) (w (d := .lays C tN "depth" "I") (by simp [thA]))
  have LD : ∀ nd ∈ sixNames, Laid G.Z G.a0 C tN nd.1 nd.2 ∧ ∃ t, parseFieldDescriptor nd.2 = some t := fun nd hnd => by
    simp only [sixNames, List.mem_cons, List.not_mem_nil, or_false] at hnd
    rcases hnd with rfl | rfl | rfl | rfl | rfl | rfl <;> exact ⟨Or.inl (hA _ (by simp [thA])), Option.isSome_iff_exists.mp (by decide +kernel)⟩
  have sC := (slot_as hal Y.cause).1
  have sS := (slot_as hal Y.stack).1
  have sP := (slot_as hal Y.supp).1
  have sM := (slot_as hal hffM).1
  have sB := (slot_as hal ffB).1
  obtain ⟨_, _, cD, kD, iD, fD, _, _, ffD, stD, -⟩ := Cond.lays_spec (w (d := .lays C tN "depth" "I") (by simp [thA]))
  cases Y.found.symm.trans (Cond.lays_declared (w (d := .lays C tN "depth" "I") (by simp [thA])) ffD)
  cases L.cls.symm.trans (State.fieldFound?_spec ffD).1
  have eB' := Cond.soleField_find Y.found L.cls (w (d := .soleField tN "backtrace") (by simp [thA])) k3 nB k4
  have eD' := Cond.soleField_find Y.found L.cls (w (d := .soleField tN "depth") (by simp [thA])) (State.fieldFound?_spec ffD).2 (State.fieldFound?_type ffD (t := .int) (by decide +kernel)).1 stD
  obtain rfl : fB = fb := (Option.some.inj (hfb.symm.trans eB')).symm
  obtain rfl : fD = fd := (Option.some.inj (hfd.symm.trans eD')).symm
  have sD := (slot_as hal ffD).1
  have six : ∀ {x y : String × String}, x ∈ sixNames → y ∈ sixNames → x.1 ≠ y.1 → RoadKit.slotOf G.Z tN x.1 x.2 ≠ RoadKit.slotOf G.Z tN y.1 y.2 := fun {x y} h1 h2 hne => by
    obtain ⟨l1, t1, p1⟩ := LD x h1
    obtain ⟨l2, t2, p2⟩ := LD y h2
    exact slot_ne l1 l2 hne p1 p2
  have m1 : (("cause", thD) : String × String) ∈ sixNames := by simp [sixNames]
  have m2 : (("stackTrace", steD) : String × String) ∈ sixNames := by simp [sixNames]
  have m3 : (("suppressedExceptions", listD) : String × String) ∈ sixNames := by simp [sixNames]
  have m4 : (("backtrace", obD) : String × String) ∈ sixNames := by simp [sixNames]
  have m5 : (("depth", "I") : String × String) ∈ sixNames := by simp [sixNames]
  have m6 : (("detailMessage", msgD) : String × String) ∈ sixNames := by simp [sixNames]
  have bC : T.fCause.slot ≠ fB.slot := by rw [← sC, ← sB]; exact six m1 m4 (by decide)
  have bS : T.fStack.slot ≠ fB.slot := by rw [← sS, ← sB]; exact six m2 m4 (by decide)
  have bP : T.fSupp.slot ≠ fB.slot := by rw [← sP, ← sB]; exact six m3 m4 (by decide)
  have hnull : cell.slots[fB.slot]? = some .null := by
    obtain ⟨cell2, cf, k, i, f, q1, q2, q3, q4, q5, q6, q7⟩ := hI.fld hm hB
    obtain ⟨k', z2⟩ := (slot_as hal ffB).2
    cases hcell.symm.trans q1
    cases z2.symm.trans q2
    exact q7
  have hsel0 : selectMethod e.platform s.vm cell.cls T.fill0 = .method T.fill0 := by
    obtain ⟨c2, r2, n2, q1, q2, q3, q4, -⟩ := Cond.selects_spec (w (d := .selects C tFill0 tFill0) (by simp [thA]))
    cases hC.symm.trans q1
    cases (State.methodFound?_of_named Y.fill0 (by decide)).symm.trans q2
    cases Y.fill0.symm.trans q3
    rw [Launch.admits_selectMethod X.admits]; exact q4
  have hselF : selectMethod e.platform s.vm cell.cls T.fill = .method T.fill := by
    obtain ⟨c2, r2, n2, q1, q2, q3, q4, -⟩ := Cond.selects_spec (w (d := .selects C tFill tFill) (by simp [thA]))
    cases hC.symm.trans q1
    cases (State.methodFound?_of_named Y.fill (by decide)).symm.trans q2
    cases Y.fill.symm.trans q3
    rw [Launch.admits_selectMethod X.admits]; exact q4
  obtain ⟨vm', lines, hlines, X2, stp⟩ := X.ctorMessageOn hexec (g := g) hg hsize T L Z1 LZ M LM [] (fun P hP => nomatch hP) trivial (u0 := ⟨vU, rU⟩) (sen := ⟨vN, rN⟩) (self := a) hmsg hcell (fun k => by rw [hvm]; simp) (by rw [hvm]; simp) (by rw [hmon]) (by rw [hmon]) hsel0 hselF hcS hneS hknS hvU hvN
    (takes_as rfl hvm hsize' (Takes.of_laid hkX hord tyC (by rw [Y.causeType]; rfl))) (takes_as rfl hvm hsize' (Takes.of_laid hkX hord tyS (by rw [Y.stackType]; exact fits_refV_array _ ⟨vU, rU⟩))) (takes_as rfl hvm hsize' (Takes.of_laid hkX hord tyP (by rw [Y.suppType]; exact fits_refV_object _ ⟨vN, rN⟩))) (takes_as rfl hvm hsize' (Takes.of_laid hkX hord tyM (by rw [Y.msgType]; exact fits_refV_object _ ⟨msg, hmsg⟩)))
    Y.objLocals htr nU ⟨⟨c198, i198, fB⟩, ⟨k1, k2, k3, k4⟩, by
      show (((cell.slots.setIfInBounds _ _).setIfInBounds _ _).setIfInBounds _ _)[fB.slot]? = _
      rw [Array.getElem?_setIfInBounds_ne bP, Array.getElem?_setIfInBounds_ne bS, Array.getElem?_setIfInBounds_ne bC]; exact hnull⟩
    hTK hBl Y.found hO hkO hkindO hfb hfd (fun x => takes_as rfl hvm hsize' (htB x)) (fun x => takes_as rfl hvm hsize' (htD x)) [] hdg (by simpa using hRf) (by simp only [List.length_nil]; omega) hc hs
  have hhold : (traceHolder cO lines).slots.size ≤ 2752 := traceHolder_size_le cO hlines
  have hlt : a < T'.heap.size := (Array.getElem?_eq_some_iff.mp hcell).1
  obtain ⟨cN, hcN⟩ : ∃ cN, cN = plainOn T.toThrowableT fB fD cell a ⟨vU, rU⟩ ⟨vN, rN⟩ T'.heap.size lines.length.toInt32 msg := ⟨_, rfl⟩
  rw [← hcN] at X2 stp
  obtain ⟨U, hU'⟩ : ∃ U, U = ((T'.setVm vm').pushCell (traceHolder cO lines)).setCell a cN := ⟨_, rfl⟩
  have hheap : U.heap = (T'.heap.push (traceHolder cO lines)).setIfInBounds a cN := by rw [hU']; rfl
  rw [← hU'] at X2 stp
  have hcNs : cN.slots = ((((((cell.slots.setIfInBounds T.fCause.slot (.ref a)).setIfInBounds T.fStack.slot vU).setIfInBounds T.fSupp.slot vN).setIfInBounds fB.slot (.ref T'.heap.size)).setIfInBounds fD.slot (.int lines.length.toInt32)).setIfInBounds T.fStack.slot vU).setIfInBounds T.fMsg.slot msg := by rw [hcN]; simp only [plainOn, preparedCellV, Cell.setSlot]
  have hcNe : cN = { cell with slots := cN.slots } := by rw [hcN]; simp only [plainOn, preparedCellV, Cell.setSlot]
  have hcNz : cN.slots.size = cell.slots.size := by rw [hcNs]; simp
  have hatA : U.heap[a]? = some cN := by rw [hheap]; simp [Nat.lt_succ_of_lt hlt]
  have Kq : Kp G.Z T'.heap U.heap a := by
    refine ⟨by rw [hheap]; simp, fun y cy hy => ?_⟩
    by_cases hya : y = a
    · subst hya
      cases hcell.symm.trans hy
      refine ⟨cN, hatA, hcNe, hcNz, fun q => absurd rfl q, fun i hi => ?_⟩
      have i1 : T.fCause.slot ≠ i := by rw [← sC]; exact hi _ m1
      have i2 : T.fStack.slot ≠ i := by rw [← sS]; exact hi _ m2
      have i3 : T.fSupp.slot ≠ i := by rw [← sP]; exact hi _ m3
      have i4 : fB.slot ≠ i := by rw [← sB]; exact hi _ m4
      have i5 : fD.slot ≠ i := by rw [← sD]; exact hi _ m5
      have i6 : T.fMsg.slot ≠ i := by rw [← sM]; exact hi _ m6
      rw [hcNs, Array.getElem?_setIfInBounds_ne i6, Array.getElem?_setIfInBounds_ne i2, Array.getElem?_setIfInBounds_ne i5, Array.getElem?_setIfInBounds_ne i4, Array.getElem?_setIfInBounds_ne i3, Array.getElem?_setIfInBounds_ne i2, Array.getElem?_setIfInBounds_ne i1]
    · refine ⟨cy, ?_, rfl, rfl, fun _ => rfl, fun _ _ => rfl⟩
      have hly := (Array.getElem?_eq_some_iff.mp hy).1
      rw [hheap, Array.getElem?_setIfInBounds_ne (Ne.symm hya), Array.getElem?_push_lt hly]
      exact (Array.getElem?_eq_some_iff.mp hy).2 ▸ rfl
  have newF : ∀ {O n d : String} {w0 v : Value}, Fld G.Z T'.heap a O n d w0 → cN.slots[RoadKit.slotOf G.Z O n d]? = some v → Fld G.Z U.heap a O n d v := fun {O n d w0 v} F hv => by
    obtain ⟨cell2, cf, k, i, f, q1, q2, q3, q4, q5, q6, q7⟩ := F
    cases hcell.symm.trans q1
    refine ⟨cN, cf, k, i, f, hatA, q2, q3, by rw [hcNe]; exact q4, by rw [hcNe]; exact q5, by rw [hcNe]; exact q6, ?_⟩
    rw [← hv]; simp [RoadKit.slotOf, q2]
  have D : Des G.Z G.a0 U.heap a true (obj C fs' vs') := by
    refine ⟨(hI.exa hm).kp Kq, hx.1, fun i f v hf hv => ?_, fun _ => ⟨hL', ((hI.2.2 _ hm).2.2.2.2 rfl).2.kp Kq⟩⟩
    rcases hx.2 i f v hf hv with ⟨rfl, rfl⟩ | ⟨rfl, rfl⟩ | ⟨q, hq⟩
    · obtain ⟨w0, hw0⟩ := hM0
      refine newF (hI.fld hm hw0) ?_
      have hl : T.fMsg.slot < cell.slots.size := by rw [hsize']; exact (Array.getElem?_eq_some_iff.mp tyM).1
      rw [sM, hcNs]; simp [hl]
    · obtain ⟨w0, hw0⟩ := hC0
      refine newF (hI.fld hm hw0) ?_
      have hl : T.fCause.slot < cell.slots.size := by rw [hsize']; exact (Array.getElem?_eq_some_iff.mp tyC).1
      have j2 : T.fStack.slot ≠ T.fCause.slot := by rw [← sC, ← sS]; exact six m2 m1 (by decide)
      have j3 : T.fSupp.slot ≠ T.fCause.slot := by rw [← sC, ← sP]; exact six m3 m1 (by decide)
      have j5 : fD.slot ≠ T.fCause.slot := by rw [← sC, ← sD]; exact six m5 m1 (by decide)
      have j6 : T.fMsg.slot ≠ T.fCause.slot := by rw [← sC, ← sM]; exact six m6 m1 (by decide)
      rw [sC, hcNs, Array.getElem?_setIfInBounds_ne j6, Array.getElem?_setIfInBounds_ne j2, Array.getElem?_setIfInBounds_ne j5, Array.getElem?_setIfInBounds_ne bC.symm, Array.getElem?_setIfInBounds_ne j3, Array.getElem?_setIfInBounds_ne j2]
      simp [hl]
    · refine Fld.kp Kq (hI.fld hm q) (Or.inr fun nd hnd => ?_)
      obtain ⟨l1, t1, p1⟩ := hL'.2 f (List.mem_of_getElem? hf)
      obtain ⟨l2, t2, p2⟩ := LD nd hnd
      exact (slot_ne l1 l2 (hq nd hnd) p1 p2).symm
  have X3 := X2.more (Nat.le_refl _) (Nat.add_le_add_left hhold slots)
  have hvm' : U.vm = vm' := by rw [hU']; rfl
  refine ⟨none, ⟨U, _, cells + 1, slots + 2752⟩, X3.retabled X3.warmed.wide, X3.warmed.since _, by show T'.heap.size ≤ U.heap.size; rw [hheap]; simp, ⟨_, As', Li, ⟨rfl, rfl, rfl⟩, ?_, hLs.warm (s := s) (by exact X3.warmed), ?_, (fun q => by rw [hnw] at q; cases q), rfl, rfl, rfl⟩, stp _ (Steps.refl _)⟩
  · exact hI.upd u (fun b hb c q => by
      obtain ⟨c', q1, -, -, q4, -⟩ := Kq.2 b c q
      rw [q1, q4 hb]) Kq.1 D
  · intro y hy
    simp only [List.mem_cons, List.not_mem_nil, or_false] at hy
    rcases hy with rfl | rfl | rfl | rfl | rfl | rfl | rfl <;> exact ha
end Thr
section Laws
variable {G : Gx} {K : Kx} {y : MethodName} {code : ByteArray} {ret : Option FieldType} {R : Room} {Q : Qx} {As As' : List Ent} {Li Li' : List LitE} {cells slots pc pc' : Nat} {Ls Ls' : List Slot} {st st' : List Value} {idx n : Nat} {a b : Addr} {vs vs' : List Value} {fs fs' : List Fd} {C : String} {msg vU vN : Value}
/-- Throwable's constructor of a message, on an object of the class C that the walk has made -/
theorem W.thr (hnw : G.nw = false) (hst : G.l.stackTraces = true) (hMK : G.Z.vm.MethodsKnown) (hFK : G.Z.vm.FramesKnown G.Z.frames) (hU : Sta G.Z G.Z.heap tN "UNASSIGNED_STACK" steD vU) (rU : vU.isRef = true) (nU : vU ≠ .null) (hN : Sta G.Z G.Z.heap tN "SUPPRESSED_SENTINEL" listD vN) (rN : vN.isRef = true)
    (hA : ∀ d ∈ thA C, d.before G.a0 G.Z = true) (wi : (Cond.instantiable C n).before G.a0 G.Z = true) (hd : decode code pc = .ok (.invokespecial idx, 3)) (wl : (Cond.methodLink y.cls idx (initS tN)).before G.a0 G.Z = true)
    (u : Upd As a (obj C fs vs) (obj C fs' vs') As') (hB : FAt fs vs tN "backtrace" obD .null) (hM0 : ∃ v, FAt fs vs tN "detailMessage" msgD v) (hC0 : ∃ v, FAt fs vs tN "cause" thD v) (hx : ExF a msg fs vs fs' vs') (hL' : LaidAll G.Z G.a0 C fs') (hmsg : msg.isRef = true)
    (hf : 3 ≤ R.frames) (hlo : wt st + 42 ≤ R.locals) (hc : cells + 1 ≤ R.cells) (hs : slots + 2752 ≤ R.slots)
    (nx : W G K y code ret R Q As' Li (cells + 1) (slots + 2752) (pc + 3) Ls st) : W G K y code ret R Q As Li cells slots pc Ls (msg :: .ref a :: st) := by
  intro T vm0 k0 locs ok X hS hk hN' hI hL hF
  have hZ := ok_Z ok hS
  have hal := hZ.alike
  have hTK : (K.s.setVm vm0).vm.MethodsKnown := fun m x q => knowsMethod_alike hal (hMK m x (by rw [← hal.method?]; exact q))
  have hBl : (K.s.setVm vm0).vm.FramesKnown K.below := fun q hq m' hm' => knowsMethod_alike hal (ok_fk ok hMK hFK q hq m' hm')
  have hT0 : ThS G.Z (K.s.setVm vm0).heap := ThS.start.ext (ok_ext ok)
  obtain ⟨v, vm₁, B, hW1, X', hS', hg, hP, stp⟩ := X.specialBackS ok.1 (y := initS tN) rfl (ok_own ok hS) (mvT hZ wl) (mvT hZ (hA (.instanceMethod (initS tN)) (by simp [thA]))) (mvT hZ (hA (.code (initS tN) InitS.code 2 none) (by simp [thA]))) (by decide)
    (thrBack (len := 3) (Wt := wt st) ok.1 hnw hst hZ hT0 hTK hBl hL hA wi hU rU nU hN rN u hB hM0 hC0 hx hL' hmsg hf hlo) (g := mkF K.m pc Ls.toArray (msg :: .ref a :: st)) rfl (by rw [ok.2.2.1]; simp) (Steps.refl _) (a := a) (argsL := [msg]) (rest := st) (fun sig h => by
      have e : parseMethodDescriptor (initS tN).desc = some ⟨[.object "java/lang/String"], none⟩ := by decide +kernel
      cases e.symm.trans h; rfl) rfl (wt_le st) (hb ok.2.1 hd) (fun vm₁ hw => ⟨rfl, hI, hL.warm hw, hc, hs⟩)
  refine W.after (R' := thR) ok hS hk hN' hF hW1 X' hS' hg hP stp fun v A L q => ?_
  obtain ⟨rfl, rfl, rfl⟩ := q
  exact nx
end Laws
end Jvm.Own
namespace Jvm.Pilot.@@N@@
open Jvm Jvm.ClassFile Sem Op Lib Jvm.Free Jvm.Stand Jvm.LawKit Jvm.RoadKit Bundle Jvm.Pilot.@@N@@.Jvm.D
def F_java_lang_String : List Own.Fd := [("java/lang/String", "coder", "B"), ("java/lang/String", "value", "[B")]
theorem LF_java_lang_String (G : Own.Gx) (hw : ∀ d ∈ tables_1, d.before G.a0 G.Z = true) : Own.LaidAll G.Z G.a0 "java/lang/String" F_java_lang_String := ⟨by decide, Own.LaidAll.cons (Or.inr (hw _ (List.mem_of_getElem? (i := 27) rfl))) (t := .byte) (by decide) (Own.LaidAll.cons (Or.inr (hw _ (List.mem_of_getElem? (i := 29) rfl))) (t := (.array .byte)) (by decide) (Own.LaidAll.nil))⟩
def F_com_example_precedence_precedence_MalformedMemberException : List Own.Fd := [("java/lang/Throwable", "cause", "Ljava/lang/Throwable;"), ("java/lang/Throwable", "stackTrace", "[Ljava/lang/StackTraceElement;"), ("java/lang/Throwable", "suppressedExceptions", "Ljava/util/List;"), ("java/lang/Throwable", "detailMessage", "Ljava/lang/String;"), ("java/lang/Throwable", "backtrace", "Ljava/lang/Object;"), ("java/lang/Throwable", "depth", "I"), ("com/example/precedence/precedence/MalformedMemberException", "file", "Ljava/nio/file/Path;"), ("com/example/precedence/precedence/MalformedMemberException", "line", "I"), ("com/example/precedence/precedence/MalformedMemberException", "reason", "Ljava/lang/String;")]
theorem LF_com_example_precedence_precedence_MalformedMemberException (G : Own.Gx) (hw : ∀ d ∈ tables_1, d.before G.a0 G.Z = true) : Own.LaidAll G.Z G.a0 "com/example/precedence/precedence/MalformedMemberException" F_com_example_precedence_precedence_MalformedMemberException := ⟨by decide, Own.LaidAll.cons (Or.inl (hw _ (List.mem_of_getElem? (i := 49) rfl))) (t := (.object "java/lang/Throwable")) (by decide) (Own.LaidAll.cons (Or.inl (hw _ (List.mem_of_getElem? (i := 52) rfl))) (t := (.array (.object "java/lang/StackTraceElement"))) (by decide) (Own.LaidAll.cons (Or.inl (hw _ (List.mem_of_getElem? (i := 55) rfl))) (t := (.object "java/util/List")) (by decide) (Own.LaidAll.cons (Or.inl (hw _ (List.mem_of_getElem? (i := 79) rfl))) (t := (.object "java/lang/String")) (by decide) (Own.LaidAll.cons (Or.inl (hw _ (List.mem_of_getElem? (i := 80) rfl))) (t := (.object "java/lang/Object")) (by decide) (Own.LaidAll.cons (Or.inl (hw _ (List.mem_of_getElem? (i := 81) rfl))) (t := .int) (by decide) (Own.LaidAll.cons (Or.inr (hw _ (List.mem_of_getElem? (i := 85) rfl))) (t := (.object "java/nio/file/Path")) (by decide) (Own.LaidAll.cons (Or.inr (hw _ (List.mem_of_getElem? (i := 87) rfl))) (t := .int) (by decide) (Own.LaidAll.cons (Or.inr (hw _ (List.mem_of_getElem? (i := 89) rfl))) (t := (.object "java/lang/String")) (by decide) (Own.LaidAll.nil)))))))))⟩
theorem d5_0 : decode jdk_52_method_21_code 0 = .ok (.iconst 0, 1) := by decide +kernel
theorem d5_1 : decode jdk_52_method_21_code 1 = .ok (.istore 5, 2) := by decide +kernel
theorem d5_3 : decode jdk_52_method_21_code 3 = .ok (.iload 5, 2) := by decide +kernel
theorem d5_5 : decode jdk_52_method_21_code 5 = .ok (.iload 4, 2) := by decide +kernel
theorem d5_7 : decode jdk_52_method_21_code 7 = .ok (.if_icmp .ge 37, 3) := by decide +kernel
theorem d5_44 : decode jdk_52_method_21_code 44 = .ok (.iload 4, 2) := by decide +kernel
theorem d5_46 : decode jdk_52_method_21_code 46 = .ok (.ireturn, 1) := by decide +kernel
theorem d5_10 : decode jdk_52_method_21_code 10 = .ok (.aload_n 0, 1) := by decide +kernel
theorem d5_11 : decode jdk_52_method_21_code 11 = .ok (.iload_n 1, 1) := by decide +kernel
theorem d5_12 : decode jdk_52_method_21_code 12 = .ok (.caload, 1) := by decide +kernel
theorem d5_13 : decode jdk_52_method_21_code 13 = .ok (.istore 6, 2) := by decide +kernel
theorem d5_15 : decode jdk_52_method_21_code 15 = .ok (.iload 6, 2) := by decide +kernel
theorem d5_17 : decode jdk_52_method_21_code 17 = .ok (.sipush 255, 3) := by decide +kernel
theorem d5_20 : decode jdk_52_method_21_code 20 = .ok (.if_icmp .le 6, 3) := by decide +kernel
theorem d5_26 : decode jdk_52_method_21_code 26 = .ok (.aload_n 2, 1) := by decide +kernel
theorem d5_27 : decode jdk_52_method_21_code 27 = .ok (.iload_n 3, 1) := by decide +kernel
theorem d5_28 : decode jdk_52_method_21_code 28 = .ok (.iload 6, 2) := by decide +kernel
theorem d5_30 : decode jdk_52_method_21_code 30 = .ok (.i2b, 1) := by decide +kernel
theorem d5_31 : decode jdk_52_method_21_code 31 = .ok (.bastore, 1) := by decide +kernel
theorem d5_32 : decode jdk_52_method_21_code 32 = .ok (.iinc 1 1, 3) := by decide +kernel
theorem d5_35 : decode jdk_52_method_21_code 35 = .ok (.iinc 3 1, 3) := by decide +kernel
theorem d5_38 : decode jdk_52_method_21_code 38 = .ok (.iinc 5 1, 3) := by decide +kernel
theorem d5_41 : decode jdk_52_method_21_code 41 = .ok (.goto (-38), 3) := by decide +kernel
theorem pn_5999480 : plainFor (⟨"java/lang/StringUTF16", "compress", "([CI[BII)I"⟩ : MethodName) = true := by first | exact plainFor_of_name (by first | (simp [plainName, overriddenIn]; done) | decide +kernel) | decide +kernel
set_option maxRecDepth 65536 in
set_option maxHeartbeats 4000000 in
theorem ct_cmp (G : Own.Gx) (hw : ∀ d ∈ tables_1, d.before G.a0 G.Z = true) {As : List Own.Ent} {Li : List Own.LitE} (c b : Addr) (cs : List Int32) (hlen : cs.length < 2147483648) (hch : ∀ z ∈ cs, ¬ (255 : Int32) < z) (hm : Own.AVin G As c .char (cs.map Value.int)) :
    Own.Ct G [] (⟨"java/lang/StringUTF16", "compress", "([CI[BII)I"⟩ : MethodName) jdk_52_method_21_code 7 (some .int) ({ frames := 0, cells := 0, slots := 0, locals := 0 } : Room) [.ref c, .int 0, .ref b, .int 0, .int cs.length.toInt32] ((b, true, Own.arr .byte (List.replicate cs.length (.int 0))) :: As) Li (fun v A L => v = some (.int cs.length.toInt32) ∧ A = (b, true, Own.arr .byte (cs.map Own.byt)) :: As ∧ L = Li) := by
  refine Own.Ct.intro pn_5999480 (Ls := [.val (.ref c), .val (.int 0), .val (.ref b), .val (.int 0), .val (.int cs.length.toInt32), .unset, .unset]) rfl rfl ?_
  intro K
  suffices loop : ∀ (m k : Nat) (o : Slot), k + m = cs.length → One o → Own.W G K (⟨"java/lang/StringUTF16", "compress", "([CI[BII)I"⟩ : MethodName) jdk_52_method_21_code (some .int) ({ frames := 0, cells := 0, slots := 0, locals := 0 } : Room) (fun v A L => v = some (.int cs.length.toInt32) ∧ A = (b, true, Own.arr .byte (cs.map Own.byt)) :: As ∧ L = Li) ((b, true, Own.arr .byte ((cs.take k).map Own.byt ++ List.replicate m (.int 0))) :: As) Li 0 0 3 [.val (.ref c), .val (.int k.toInt32), .val (.ref b), .val (.int k.toInt32), .val (.int cs.length.toInt32), .val (.int k.toInt32), o] [] by
    refine Own.W.iconst (pc := 0) (z := (0 : Int32)) d5_0 (by decide) ?_
    refine Own.W.istore (pc := 1) (Ls' := [_, _, _, _, _, _, _]) d5_1 rfl rfl ?_
    exact loop cs.length 0 .unset (by simp) One.u
  intro m
  induction m with
  | zero =>
    intro k o hk ho
    obtain rfl : k = cs.length := by omega
    refine Own.W.iload (pc := 3) d5_3 rfl ?_
    refine Own.W.iload (pc := 5) d5_5 rfl ?_
    refine Own.W.ic_ge (pc := 7) 44 d5_7 (by decide) (by decide) ?_ (fun h7 => absurd h7 (Own.n_nlt (Nat.le_refl _) hlen))
    intro h7
    refine Own.W.iload (pc := 44) d5_44 rfl ?_
    refine Own.W.iret (pc := 46) d5_46 rfl (by simp) (by first | rfl | decide) ?_ (Nat.le_of_ble_eq_true rfl) (Nat.le_of_ble_eq_true rfl)
    exact ⟨rfl, by rw [Own.own_done], rfl⟩
  | succ m ih =>
    intro k o hk ho
    have hkl : k < cs.length := by omega
    refine Own.W.iload (pc := 3) d5_3 rfl ?_
    refine Own.W.iload (pc := 5) d5_5 rfl ?_
    refine Own.W.ic_ge (pc := 7) 44 d5_7 (by decide) (by decide) (fun h7 => absurd h7 (fun q => q (Own.n_lt hkl hlen))) ?_
    intro h7
    refine Own.W.aloadN (pc := 10) d5_10 rfl rfl ?_
    refine Own.W.iloadN (pc := 11) d5_11 rfl ?_
    refine Own.W.caload (pc := 12) d5_12 (hm.sub (Own.Sub.cons (Own.Sub.refl _))) (Own.n_nn (by omega)) (v := .int cs[k]) (by rw [Own.n_clamp (by omega)]; simp [hkl]) ?_
    refine Own.W.istore (pc := 13) (Ls' := [_, _, _, _, _, _, _]) d5_13 (Own.store_one rfl ho rfl) rfl ?_
    refine Own.W.iload (pc := 15) d5_15 rfl ?_
    refine Own.W.sipush (pc := 17) (z := (255 : Int32)) d5_17 (by decide) ?_
    refine Own.W.ic_le (pc := 20) 26 d5_20 (by decide) (by decide) ?_ (fun h20 => absurd h20 (hch _ (List.getElem_mem _)))
    intro h20
    refine Own.W.aloadN (pc := 26) d5_26 rfl rfl ?_
    refine Own.W.iloadN (pc := 27) d5_27 rfl ?_
    refine Own.W.iload (pc := 28) d5_28 rfl ?_
    refine Own.W.i2b (pc := 30) d5_30 rfl ?_
    refine Own.W.bastore (pc := 31) d5_31 (Own.n_nn (by omega)) (Own.n_clamp (by omega)) (by simp; omega) (u := Own.byt cs[k]) (by simp [nar]) (Own.own_fill cs hkl hk) Own.Upd.head ?_
    refine Own.W.iinc (pc := 32) (z := (1 : Int32)) (Ls' := [_, _, _, _, _, _, _]) d5_32 rfl (by decide) rfl rfl ?_
    refine Own.W.iinc (pc := 35) (z := (1 : Int32)) (Ls' := [_, _, _, _, _, _, _]) d5_35 rfl (by decide) rfl rfl ?_
    refine Own.W.iinc (pc := 38) (z := (1 : Int32)) (Ls' := [_, _, _, _, _, _, _]) d5_38 rfl (by decide) rfl rfl ?_
    refine Own.W.goto (pc := 41) 3 d5_41 (by decide) (by decide) ?_
    have ih' := ih (k + 1) (.val (.int cs[k])) (by omega) (One.val rfl)
    rw [← Own.n_succ] at ih'
    exact ih'
theorem d4_0 : decode jdk_52_method_16_code 0 = .ok (.iload_n 2, 1) := by decide +kernel
theorem d4_1 : decode jdk_52_method_16_code 1 = .ok (.newarray .byte, 2) := by decide +kernel
theorem d4_3 : decode jdk_52_method_16_code 3 = .ok (.astore_n 3, 1) := by decide +kernel
theorem d4_4 : decode jdk_52_method_16_code 4 = .ok (.aload_n 0, 1) := by decide +kernel
theorem d4_5 : decode jdk_52_method_16_code 5 = .ok (.iload_n 1, 1) := by decide +kernel
theorem d4_6 : decode jdk_52_method_16_code 6 = .ok (.aload_n 3, 1) := by decide +kernel
theorem d4_7 : decode jdk_52_method_16_code 7 = .ok (.iconst 0, 1) := by decide +kernel
theorem d4_8 : decode jdk_52_method_16_code 8 = .ok (.iload_n 2, 1) := by decide +kernel
theorem d4_9 : decode jdk_52_method_16_code 9 = .ok (.invokestatic 115, 3) := by decide +kernel
theorem pd_79053557 : parseMethodDescriptor "([CI[BII)I" = some ⟨[(.array .char), .int, (.array .byte), .int, .int], some .int⟩ := by decide +kernel
theorem d4_12 : decode jdk_52_method_16_code 12 = .ok (.istore 4, 2) := by decide +kernel
theorem d4_14 : decode jdk_52_method_16_code 14 = .ok (.iload 4, 2) := by decide +kernel
theorem d4_16 : decode jdk_52_method_16_code 16 = .ok (.iload_n 2, 1) := by decide +kernel
theorem d4_17 : decode jdk_52_method_16_code 17 = .ok (.if_icmp .eq 40, 3) := by decide +kernel
theorem d4_57 : decode jdk_52_method_16_code 57 = .ok (.aload_n 3, 1) := by decide +kernel
theorem d4_58 : decode jdk_52_method_16_code 58 = .ok (.areturn, 1) := by decide +kernel
theorem pn_53398918 : plainFor (⟨"java/lang/StringUTF16", "compress", "([CII)[B"⟩ : MethodName) = true := by first | exact plainFor_of_name (by first | (simp [plainName, overriddenIn]; done) | decide +kernel) | decide +kernel
set_option maxRecDepth 65536 in
set_option maxHeartbeats 4000000 in
theorem ct_cmp2 (G : Own.Gx) (hw : ∀ d ∈ tables_1, d.before G.a0 G.Z = true) {As : List Own.Ent} {Li : List Own.LitE} (c : Addr) (cs : List Int32) (N : Nat) (hN : cs.length ≤ N) (hN4 : N ≤ 4000) (hch : ∀ z ∈ cs, ¬ (255 : Int32) < z) (hm : Own.AVin G As c .char (cs.map Value.int)) :
    Own.Ct G [] (⟨"java/lang/StringUTF16", "compress", "([CII)[B"⟩ : MethodName) jdk_52_method_16_code 6 (some (.array .byte)) ({ frames := 1, cells := 1, slots := N, locals := 18 } : Room) [.ref c, .int 0, .int cs.length.toInt32] As Li (fun v A L => ∃ b, v = some (.ref b) ∧ A = (b, true, Own.arr .byte (cs.map Own.byt)) :: As ∧ L = Li) := by
  refine Own.Ct.intro pn_53398918 (Ls := [.val (.ref c), .val (.int 0), .val (.int cs.length.toInt32), .unset, .unset, .unset]) rfl rfl ?_
  intro K
  refine Own.W.iloadN (pc := 0) d4_0 rfl ?_
  refine Own.W.newP (pc := 1) N (hw _ (List.mem_of_getElem? (i := 19) rfl)) d4_1 rfl (Own.n_nn (by omega)) (by rw [Own.n_clamp (by omega)]; exact hN) (by omega) (vs := (List.replicate cs.length (.int 0))) (by rw [Own.n_clamp (by omega)]; rfl) (Nat.le_of_ble_eq_true rfl) (by first | exact Nat.le_of_ble_eq_true rfl | (simp; done) | (simp; omega)) ?_
  intro o1
  refine Own.W.astoreN (pc := 3) (Ls' := [_, _, _, _, _, _]) d4_3 rfl rfl rfl ?_
  refine Own.W.aloadN (pc := 4) d4_4 rfl rfl ?_
  refine Own.W.iloadN (pc := 5) d4_5 rfl ?_
  refine Own.W.aloadN (pc := 6) d4_6 rfl rfl ?_
  refine Own.W.iconst (pc := 7) (z := (0 : Int32)) d4_7 (by decide) ?_
  refine Own.W.iloadN (pc := 8) d4_8 rfl ?_
  refine Own.W.callS (pc := 9) (ct_cmp G hw c o1 cs (by omega) hch hm) d4_9 (hw _ (List.mem_of_getElem? (i := 20) rfl)) (hw _ (List.mem_of_getElem? (i := 21) rfl)) (hw _ (List.mem_of_getElem? (i := 17) rfl)) (hw _ (List.mem_of_getElem? (i := 22) rfl)) (by decide) pd_79053557 rfl rfl (Nat.le_of_ble_eq_true rfl) (Nat.le_of_ble_eq_true rfl) (by first | exact Nat.le_of_ble_eq_true rfl | (simp; done) | (simp; omega)) (by first | exact Nat.le_of_ble_eq_true rfl | (simp; done) | (simp; omega)) ?_
  rintro _ _ _ ⟨rfl, rfl, rfl⟩
  refine Own.W.istore (pc := 12) (Ls' := [_, _, _, _, _, _]) d4_12 rfl rfl ?_
  refine Own.W.iload (pc := 14) d4_14 rfl ?_
  refine Own.W.iloadN (pc := 16) d4_16 rfl ?_
  refine Own.W.ic_eq (pc := 17) 57 d4_17 (by decide) (by decide) ?_ (fun h17 => absurd h17 (fun q => q rfl))
  intro h17
  refine Own.W.aloadN (pc := 57) d4_57 rfl rfl ?_
  refine Own.W.aret (pc := 58) d4_58 rfl rfl rfl ?_ (Nat.le_of_ble_eq_true rfl) (by first | exact Nat.le_of_ble_eq_true rfl | (simp; done) | (simp; omega))
  exact ⟨_, rfl, rfl, rfl⟩
theorem d6_0 : decode jdk_52_method_15_code 0 = .ok (.iload_n 1, 1) := by decide +kernel
theorem d6_1 : decode jdk_52_method_15_code 1 = .ok (.aload_n 0, 1) := by decide +kernel
theorem d6_2 : decode jdk_52_method_15_code 2 = .ok (.arraylength, 1) := by decide +kernel
theorem d6_3 : decode jdk_52_method_15_code 3 = .ok (.isub, 1) := by decide +kernel
theorem d6_4 : decode jdk_52_method_15_code 4 = .ok (.bipush 31, 2) := by decide +kernel
theorem d6_6 : decode jdk_52_method_15_code 6 = .ok (.iushr, 1) := by decide +kernel
theorem d6_7 : decode jdk_52_method_15_code 7 = .ok (.i2b, 1) := by decide +kernel
theorem d6_8 : decode jdk_52_method_15_code 8 = .ok (.ireturn, 1) := by decide +kernel
theorem pn_92531892 : plainFor (⟨"java/lang/StringUTF16", "coderFromArrayLen", "([BI)B"⟩ : MethodName) = true := by first | exact plainFor_of_name (by first | (simp [plainName, overriddenIn]; done) | decide +kernel) | decide +kernel
set_option maxRecDepth 65536 in
set_option maxHeartbeats 4000000 in
theorem ct_cod (G : Own.Gx) (hw : ∀ d ∈ tables_1, d.before G.a0 G.Z = true) {As : List Own.Ent} {Li : List Own.LitE} (b : Addr) (vs : List Value) (z : Int32) (hm : Own.AVin G As b .byte vs) (hz : vs.length.toInt32 = z) :
    Own.Ct G [] (⟨"java/lang/StringUTF16", "coderFromArrayLen", "([BI)B"⟩ : MethodName) jdk_52_method_15_code 2 (some .byte) ({ frames := 0, cells := 0, slots := 0, locals := 0 } : Room) [.ref b, .int z] As Li (fun v A L => v = some (.int 0) ∧ As = A ∧ Li = L) := by
  refine Own.Ct.intro pn_92531892 (Ls := [.val (.ref b), .val (.int z)]) rfl rfl ?_
  intro K
  refine Own.W.iloadN (pc := 0) d6_0 rfl ?_
  refine Own.W.aloadN (pc := 1) d6_1 rfl rfl ?_
  refine Own.W.alen (pc := 2) d6_2 hm hz ?_
  refine Own.W.isub (pc := 3) d6_3 (Int32.sub_self _) ?_
  refine Own.W.bipush (pc := 4) (z := (31 : Int32)) d6_4 (by decide) ?_
  refine Own.W.iushr (pc := 6) d6_6 (z := (0 : Int32)) (by decide) ?_
  refine Own.W.i2b (pc := 7) d6_7 (z := (0 : Int32)) (by decide) ?_
  refine Own.W.iret (pc := 8) d6_8 rfl (by simp) (by first | rfl | decide) ?_ (Nat.le_of_ble_eq_true rfl) (Nat.le_of_ble_eq_true rfl)
  exact ⟨rfl, rfl, rfl⟩
theorem d2_0 : decode jdk_42_method_149_code 0 = .ok (.aload_n 0, 1) := by decide +kernel
theorem d2_1 : decode jdk_42_method_149_code 1 = .ok (.invokespecial 1, 3) := by decide +kernel
theorem d2_4 : decode jdk_42_method_149_code 4 = .ok (.iload_n 3, 1) := by decide +kernel
theorem d2_5 : decode jdk_42_method_149_code 5 = .ok (.ifCond .ne 22, 3) := by decide +kernel
theorem d2_27 : decode jdk_42_method_149_code 27 = .ok (.getstatic 38, 3) := by decide +kernel
theorem d2_30 : decode jdk_42_method_149_code 30 = .ok (.ifCond .eq 28, 3) := by decide +kernel
theorem d2_33 : decode jdk_42_method_149_code 33 = .ok (.aload_n 1, 1) := by decide +kernel
theorem d2_34 : decode jdk_42_method_149_code 34 = .ok (.iload_n 2, 1) := by decide +kernel
theorem d2_35 : decode jdk_42_method_149_code 35 = .ok (.iload_n 3, 1) := by decide +kernel
theorem d2_36 : decode jdk_42_method_149_code 36 = .ok (.invokestatic 177, 3) := by decide +kernel
theorem pd_86865603 : parseMethodDescriptor "([CII)[B" = some ⟨[(.array .char), .int, .int], some (.array .byte)⟩ := by decide +kernel
theorem d2_39 : decode jdk_42_method_149_code 39 = .ok (.astore 5, 2) := by decide +kernel
theorem d2_41 : decode jdk_42_method_149_code 41 = .ok (.aload_n 0, 1) := by decide +kernel
theorem d2_42 : decode jdk_42_method_149_code 42 = .ok (.aload 5, 2) := by decide +kernel
theorem d2_44 : decode jdk_42_method_149_code 44 = .ok (.iload_n 3, 1) := by decide +kernel
theorem d2_45 : decode jdk_42_method_149_code 45 = .ok (.invokestatic 47, 3) := by decide +kernel
theorem pd_7843550 : parseMethodDescriptor "([BI)B" = some ⟨[(.array .byte), .int], some .byte⟩ := by decide +kernel
theorem d2_48 : decode jdk_42_method_149_code 48 = .ok (.putfield 15, 3) := by decide +kernel
theorem d2_51 : decode jdk_42_method_149_code 51 = .ok (.aload_n 0, 1) := by decide +kernel
theorem d2_52 : decode jdk_42_method_149_code 52 = .ok (.aload 5, 2) := by decide +kernel
theorem d2_54 : decode jdk_42_method_149_code 54 = .ok (.putfield 9, 3) := by decide +kernel
theorem d2_57 : decode jdk_42_method_149_code 57 = .ok (.return_, 1) := by decide +kernel
theorem pn_33051558 : plainFor (⟨"java/lang/String", "<init>", "([CIILjava/lang/Void;)V"⟩ : MethodName) = true := by first | exact plainFor_of_name (by first | (simp [plainName, overriddenIn]; done) | decide +kernel) | decide +kernel
set_option maxRecDepth 65536 in
set_option maxHeartbeats 4000000 in
theorem ct_void (G : Own.Gx) (hw : ∀ d ∈ tables_1, d.before G.a0 G.Z = true) (hC : Own.CSt G) {As : List Own.Ent} {Li : List Own.LitE} (s c : Addr) (cs : List Int32) (N : Nat) (hpos : 0 < cs.length) (hN : cs.length ≤ N) (hN4 : N ≤ 4000) (hch : ∀ z ∈ cs, ¬ (255 : Int32) < z) (hm : Own.AVin G As c .char (cs.map Value.int)) :
    Own.Ct G [] (⟨"java/lang/String", "<init>", "([CIILjava/lang/Void;)V"⟩ : MethodName) jdk_42_method_149_code 6 none ({ frames := 2, cells := 1, slots := N, locals := 35 } : Room) [.ref s, .ref c, .int 0, .int cs.length.toInt32, .null] ((s, true, Own.obj "java/lang/String" F_java_lang_String [.int 0, .null]) :: As) Li (fun v A L => ∃ b, v = none ∧ A = (b, true, Own.arr .byte (cs.map Own.byt)) :: (s, true, Own.obj "java/lang/String" F_java_lang_String [.int 0, .ref b]) :: As ∧ L = Li) := by
  refine Own.Ct.intro pn_33051558 (Ls := [.val (.ref s), .val (.ref c), .val (.int 0), .val (.int cs.length.toInt32), .val (.null), .unset]) rfl rfl ?_
  intro K
  obtain ⟨cz, hC1, hC2⟩ := hC
  refine Own.W.aloadN (pc := 0) d2_0 rfl rfl ?_
  refine Own.W.callO (pc := 1) d2_1 (hw _ (List.mem_of_getElem? (i := 11) rfl)) (hw _ (List.mem_of_getElem? (i := 12) rfl)) (hw _ (List.mem_of_getElem? (i := 13) rfl)) (Nat.le_of_ble_eq_true rfl) (Nat.le_of_ble_eq_true rfl) ?_
  refine Own.W.iloadN (pc := 4) d2_4 rfl ?_
  refine Own.W.if_ne (pc := 5) 27 d2_5 (by decide) (by decide) ?_ (fun h5 => absurd h5 (Own.n_ne0 hpos (by omega)))
  intro h5
  refine Own.W.getS (pc := 27) (host := "") (Or.inl (hw _ (List.mem_of_getElem? (i := 14) rfl))) (Via.refl (O := "java/lang/String")) d2_27 hC1 ?_
  refine Own.W.if_eq (pc := 30) 58 d2_30 (by decide) (by decide) (fun h30 => absurd h30 hC2) ?_
  intro h30
  refine Own.W.aloadN (pc := 33) d2_33 rfl rfl ?_
  refine Own.W.iloadN (pc := 34) d2_34 rfl ?_
  refine Own.W.iloadN (pc := 35) d2_35 rfl ?_
  refine Own.W.callS (pc := 36) (ct_cmp2 G hw c cs N hN hN4 hch (hm.sub (Own.Sub.cons (Own.Sub.refl _)))) d2_36 (hw _ (List.mem_of_getElem? (i := 15) rfl)) (hw _ (List.mem_of_getElem? (i := 16) rfl)) (hw _ (List.mem_of_getElem? (i := 17) rfl)) (hw _ (List.mem_of_getElem? (i := 18) rfl)) (by decide) pd_86865603 rfl rfl (Nat.le_of_ble_eq_true rfl) (Nat.le_of_ble_eq_true rfl) (by first | exact Nat.le_of_ble_eq_true rfl | (simp; done) | (simp; omega)) (by first | exact Nat.le_of_ble_eq_true rfl | (simp; done) | (simp; omega)) ?_
  rintro _ _ _ ⟨b, rfl, rfl, rfl⟩
  refine Own.W.astore (pc := 39) (Ls' := [_, _, _, _, _, _]) d2_39 rfl rfl rfl ?_
  refine Own.W.aloadN (pc := 41) d2_41 rfl rfl ?_
  refine Own.W.aload (pc := 42) d2_42 rfl rfl ?_
  refine Own.W.iloadN (pc := 44) d2_44 rfl ?_
  refine Own.W.callS (pc := 45) (ct_cod G hw b _ _ (Own.AVin.mem (List.Mem.head _)) (by simp)) d2_45 (hw _ (List.mem_of_getElem? (i := 23) rfl)) (hw _ (List.mem_of_getElem? (i := 24) rfl)) (hw _ (List.mem_of_getElem? (i := 17) rfl)) (hw _ (List.mem_of_getElem? (i := 25) rfl)) (by decide) pd_7843550 rfl rfl (Nat.le_of_ble_eq_true rfl) (Nat.le_of_ble_eq_true rfl) (by first | exact Nat.le_of_ble_eq_true rfl | (simp; done) | (simp; omega)) (by first | exact Nat.le_of_ble_eq_true rfl | (simp; done) | (simp; omega)) ?_
  rintro _ _ _ ⟨rfl, rfl, rfl⟩
  refine Own.W.putN (pc := 48) (hw _ (List.mem_of_getElem? (i := 26) rfl)) (Via.refl (O := "java/lang/String")) d2_48 (Or.inr ⟨(hw _ (List.mem_of_getElem? (i := 27) rfl)), rfl, rfl⟩) (hw _ (List.mem_of_getElem? (i := 2) rfl)) (ty := .byte) (by decide) rfl (by first | rfl | decide) (by repeat (first | exact Own.Upd.head | exact Own.Upd.mid | apply Own.Upd.tail)) (by repeat (first | exact Own.FUp.head | apply Own.FUp.tail)) ?_
  refine Own.W.aloadN (pc := 51) d2_51 rfl rfl ?_
  refine Own.W.aload (pc := 52) d2_52 rfl rfl ?_
  refine Own.W.putF (pc := 54) (host := "") (Or.inl (hw _ (List.mem_of_getElem? (i := 28) rfl))) (Via.refl (O := "java/lang/String")) d2_54 (Or.inr ⟨(hw _ (List.mem_of_getElem? (i := 29) rfl)), rfl, rfl⟩) (hw _ (List.mem_of_getElem? (i := 2) rfl)) (ty := (.array .byte)) (by decide) rfl rfl (by repeat (first | exact Own.Upd.head | exact Own.Upd.mid | apply Own.Upd.tail)) (by repeat (first | exact Own.FUp.head | apply Own.FUp.tail)) ?_
  refine Own.W.vret (pc := 57) d2_57 rfl ?_ (Nat.le_of_ble_eq_true rfl) (by first | exact Nat.le_of_ble_eq_true rfl | (simp; done) | (simp; omega))
  exact ⟨b, rfl, rfl, rfl⟩
theorem d1_0 : decode jdk_42_method_3_code 0 = .ok (.aload_n 0, 1) := by decide +kernel
theorem d1_1 : decode jdk_42_method_3_code 1 = .ok (.aload_n 1, 1) := by decide +kernel
theorem d1_2 : decode jdk_42_method_3_code 2 = .ok (.iconst 0, 1) := by decide +kernel
theorem d1_3 : decode jdk_42_method_3_code 3 = .ok (.aload_n 1, 1) := by decide +kernel
theorem d1_4 : decode jdk_42_method_3_code 4 = .ok (.arraylength, 1) := by decide +kernel
theorem d1_5 : decode jdk_42_method_3_code 5 = .ok (.aconst_null, 1) := by decide +kernel
theorem d1_6 : decode jdk_42_method_3_code 6 = .ok (.invokespecial 27, 3) := by decide +kernel
theorem pd_91355479 : parseMethodDescriptor "([CIILjava/lang/Void;)V" = some ⟨[(.array .char), .int, .int, (.object "java/lang/Void")], none⟩ := by decide +kernel
theorem d1_9 : decode jdk_42_method_3_code 9 = .ok (.return_, 1) := by decide +kernel
theorem pn_55852025 : plainFor (⟨"java/lang/String", "<init>", "([C)V"⟩ : MethodName) = true := by first | exact plainFor_of_name (by first | (simp [plainName, overriddenIn]; done) | decide +kernel) | decide +kernel
set_option maxRecDepth 65536 in
set_option maxHeartbeats 4000000 in
theorem ct_str1 (G : Own.Gx) (hw : ∀ d ∈ tables_1, d.before G.a0 G.Z = true) (hC : Own.CSt G) {As : List Own.Ent} {Li : List Own.LitE} (s c : Addr) (cs : List Int32) (N : Nat) (hpos : 0 < cs.length) (hN : cs.length ≤ N) (hN4 : N ≤ 4000) (hch : ∀ z ∈ cs, ¬ (255 : Int32) < z) (hm : Own.AVin G As c .char (cs.map Value.int)) :
    Own.Ct G [] (⟨"java/lang/String", "<init>", "([C)V"⟩ : MethodName) jdk_42_method_3_code 2 none ({ frames := 3, cells := 1, slots := N, locals := 52 } : Room) [.ref s, .ref c] ((s, true, Own.obj "java/lang/String" F_java_lang_String [.int 0, .null]) :: As) Li (fun v A L => ∃ b, v = none ∧ A = (b, true, Own.arr .byte (cs.map Own.byt)) :: (s, true, Own.obj "java/lang/String" F_java_lang_String [.int 0, .ref b]) :: As ∧ L = Li) := by
  refine Own.Ct.intro pn_55852025 (Ls := [.val (.ref s), .val (.ref c)]) rfl rfl ?_
  intro K
  refine Own.W.aloadN (pc := 0) d1_0 rfl rfl ?_
  refine Own.W.aloadN (pc := 1) d1_1 rfl rfl ?_
  refine Own.W.iconst (pc := 2) (z := (0 : Int32)) d1_2 (by decide) ?_
  refine Own.W.aloadN (pc := 3) d1_3 rfl rfl ?_
  refine Own.W.alen (pc := 4) d1_4 (hm.sub (Own.Sub.cons (Own.Sub.refl _))) (z := cs.length.toInt32) (by simp) ?_
  refine Own.W.aconstNull (pc := 5) d1_5 ?_
  refine Own.W.callI (pc := 6) (ct_void G hw hC s c cs N hpos hN hN4 hch hm) d1_6 rfl (hw _ (List.mem_of_getElem? (i := 7) rfl)) (hw _ (List.mem_of_getElem? (i := 8) rfl)) (hw _ (List.mem_of_getElem? (i := 3) rfl)) (hw _ (List.mem_of_getElem? (i := 10) rfl)) (by decide) pd_91355479 rfl rfl (Nat.le_of_ble_eq_true rfl) (Nat.le_of_ble_eq_true rfl) (by first | exact Nat.le_of_ble_eq_true rfl | (simp; done) | (simp; omega)) (by first | exact Nat.le_of_ble_eq_true rfl | (simp; done) | (simp; omega)) ?_
  rintro _ _ _ ⟨b, rfl, rfl, rfl⟩
  refine Own.W.vret (pc := 9) d1_9 rfl ?_ (Nat.le_of_ble_eq_true rfl) (by first | exact Nat.le_of_ble_eq_true rfl | (simp; done) | (simp; omega))
  exact ⟨b, rfl, rfl, rfl⟩
theorem d46_0 : decode jdk_29_method_65_code 0 = .ok (.iload_n 0, 1) := by decide +kernel
theorem d46_1 : decode jdk_29_method_65_code 1 = .ok (.iload_n 1, 1) := by decide +kernel
theorem d46_2 : decode jdk_29_method_65_code 2 = .ok (.if_icmp .lt 7, 3) := by decide +kernel
theorem d46_9 : decode jdk_29_method_65_code 9 = .ok (.iload_n 1, 1) := by decide +kernel
theorem d46_10 : decode jdk_29_method_65_code 10 = .ok (.ireturn, 1) := by decide +kernel
theorem d46_5 : decode jdk_29_method_65_code 5 = .ok (.iload_n 0, 1) := by decide +kernel
theorem d46_6 : decode jdk_29_method_65_code 6 = .ok (.goto 4, 3) := by decide +kernel
theorem pn_31943339 : plainFor (⟨"java/lang/Math", "max", "(II)I"⟩ : MethodName) = true := by first | exact plainFor_of_name (by first | (simp [plainName, overriddenIn]; done) | decide +kernel) | decide +kernel
set_option maxRecDepth 65536 in
set_option maxHeartbeats 4000000 in
theorem ct_max (G : Own.Gx) (hw : ∀ d ∈ tables_1, d.before G.a0 G.Z = true) {As : List Own.Ent} {Li : List Own.LitE} (a b : Nat) (ha : a < 2147483648) (hb : b < 2147483648) :
    Own.Ct G [] (⟨"java/lang/Math", "max", "(II)I"⟩ : MethodName) jdk_29_method_65_code 2 (some .int) ({ frames := 0, cells := 0, slots := 0, locals := 0 } : Room) [.int a.toInt32, .int b.toInt32] As Li (fun v A L => v = some (.int (max a b).toInt32) ∧ As = A ∧ Li = L) := by
  refine Own.Ct.intro pn_31943339 (Ls := [.val (.int a.toInt32), .val (.int b.toInt32)]) rfl rfl ?_
  intro K
  refine Own.W.iloadN (pc := 0) d46_0 rfl ?_
  refine Own.W.iloadN (pc := 1) d46_1 rfl ?_
  refine Own.W.ic_lt (pc := 2) 9 d46_2 (by decide) (by decide) ?_ ?_
  · intro h2
    refine Own.W.iloadN (pc := 9) d46_9 rfl ?_
    refine Own.W.iret (pc := 10) d46_10 rfl (by simp) rfl ?_ (Nat.le_of_ble_eq_true rfl) (Nat.le_of_ble_eq_true rfl)
    exact ⟨by rw [Own.n_max ha hb h2], rfl, rfl⟩
  · intro h2
    refine Own.W.iloadN (pc := 5) d46_5 rfl ?_
    refine Own.W.goto (pc := 6) 10 d46_6 (by decide) (by decide) ?_
    refine Own.W.iret (pc := 10) d46_10 rfl (by simp) rfl ?_ (Nat.le_of_ble_eq_true rfl) (Nat.le_of_ble_eq_true rfl)
    exact ⟨by rw [Own.n_max' ha hb h2], rfl, rfl⟩
theorem d37_0 : decode jdk_29_method_69_code 0 = .ok (.iload_n 0, 1) := by decide +kernel
theorem d37_1 : decode jdk_29_method_69_code 1 = .ok (.iload_n 1, 1) := by decide +kernel
theorem d37_2 : decode jdk_29_method_69_code 2 = .ok (.if_icmp .gt 7, 3) := by decide +kernel
theorem d37_9 : decode jdk_29_method_69_code 9 = .ok (.iload_n 1, 1) := by decide +kernel
theorem d37_10 : decode jdk_29_method_69_code 10 = .ok (.ireturn, 1) := by decide +kernel
theorem d37_5 : decode jdk_29_method_69_code 5 = .ok (.iload_n 0, 1) := by decide +kernel
theorem d37_6 : decode jdk_29_method_69_code 6 = .ok (.goto 4, 3) := by decide +kernel
theorem pn_47292969 : plainFor (⟨"java/lang/Math", "min", "(II)I"⟩ : MethodName) = true := by first | exact plainFor_of_name (by first | (simp [plainName, overriddenIn]; done) | decide +kernel) | decide +kernel
set_option maxRecDepth 65536 in
set_option maxHeartbeats 4000000 in
theorem ct_min (G : Own.Gx) (hw : ∀ d ∈ tables_1, d.before G.a0 G.Z = true) {As : List Own.Ent} {Li : List Own.LitE} (a b : Nat) (ha : a < 2147483648) (hb : b < 2147483648) :
    Own.Ct G [] (⟨"java/lang/Math", "min", "(II)I"⟩ : MethodName) jdk_29_method_69_code 2 (some .int) ({ frames := 0, cells := 0, slots := 0, locals := 0 } : Room) [.int a.toInt32, .int b.toInt32] As Li (fun v A L => v = some (.int (min a b).toInt32) ∧ As = A ∧ Li = L) := by
  refine Own.Ct.intro pn_47292969 (Ls := [.val (.int a.toInt32), .val (.int b.toInt32)]) rfl rfl ?_
  intro K
  refine Own.W.iloadN (pc := 0) d37_0 rfl ?_
  refine Own.W.iloadN (pc := 1) d37_1 rfl ?_
  refine Own.W.ic_gt (pc := 2) 9 d37_2 (by decide) (by decide) ?_ ?_
  · intro h2
    refine Own.W.iloadN (pc := 9) d37_9 rfl ?_
    refine Own.W.iret (pc := 10) d37_10 rfl (by simp) rfl ?_ (Nat.le_of_ble_eq_true rfl) (Nat.le_of_ble_eq_true rfl)
    exact ⟨by rw [Own.n_min ha hb h2], rfl, rfl⟩
  · intro h2
    refine Own.W.iloadN (pc := 5) d37_5 rfl ?_
    refine Own.W.goto (pc := 6) 10 d37_6 (by decide) (by decide) ?_
    refine Own.W.iret (pc := 10) d37_10 rfl (by simp) rfl ?_ (Nat.le_of_ble_eq_true rfl) (Nat.le_of_ble_eq_true rfl)
    exact ⟨by rw [Own.n_min' ha hb h2], rfl, rfl⟩
theorem d47_0 : decode jdk_65_method_121_code 0 = .ok (.iload_n 1, 1) := by decide +kernel
theorem d47_1 : decode jdk_65_method_121_code 1 = .ok (.aload_n 0, 1) := by decide +kernel
theorem d47_2 : decode jdk_65_method_121_code 2 = .ok (.arraylength, 1) := by decide +kernel
theorem d47_3 : decode jdk_65_method_121_code 3 = .ok (.if_icmp .ne 11, 3) := by decide +kernel
theorem d47_14 : decode jdk_65_method_121_code 14 = .ok (.iload_n 1, 1) := by decide +kernel
theorem d47_15 : decode jdk_65_method_121_code 15 = .ok (.newarray .byte, 2) := by decide +kernel
theorem d47_17 : decode jdk_65_method_121_code 17 = .ok (.astore_n 2, 1) := by decide +kernel
theorem d47_18 : decode jdk_65_method_121_code 18 = .ok (.aload_n 0, 1) := by decide +kernel
theorem d47_19 : decode jdk_65_method_121_code 19 = .ok (.iconst 0, 1) := by decide +kernel
theorem d47_20 : decode jdk_65_method_121_code 20 = .ok (.aload_n 2, 1) := by decide +kernel
theorem d47_21 : decode jdk_65_method_121_code 21 = .ok (.iconst 0, 1) := by decide +kernel
theorem d47_22 : decode jdk_65_method_121_code 22 = .ok (.aload_n 0, 1) := by decide +kernel
theorem d47_23 : decode jdk_65_method_121_code 23 = .ok (.arraylength, 1) := by decide +kernel
theorem d47_24 : decode jdk_65_method_121_code 24 = .ok (.iload_n 1, 1) := by decide +kernel
theorem d47_25 : decode jdk_65_method_121_code 25 = .ok (.invokestatic 304, 3) := by decide +kernel
theorem pd_84293393 : parseMethodDescriptor "(II)I" = some ⟨[.int, .int], some .int⟩ := by decide +kernel
theorem d47_28 : decode jdk_65_method_121_code 28 = .ok (.invokestatic 150, 3) := by decide +kernel
theorem d47_31 : decode jdk_65_method_121_code 31 = .ok (.aload_n 2, 1) := by decide +kernel
theorem d47_32 : decode jdk_65_method_121_code 32 = .ok (.areturn, 1) := by decide +kernel
theorem pn_15054465 : plainFor (⟨"java/util/Arrays", "copyOf", "([BI)[B"⟩ : MethodName) = true := by first | exact plainFor_of_name (by first | (simp [plainName, overriddenIn]; done) | decide +kernel) | decide +kernel
set_option maxRecDepth 65536 in
set_option maxHeartbeats 4000000 in
theorem ct_cpy (G : Own.Gx) (hw : ∀ d ∈ tables_1, d.before G.a0 G.Z = true) {As : List Own.Ent} {Li : List Own.LitE} (b : Addr) (vs : List Value) (n N : Nat) (hv : vs.length < n) (hn : n ≤ N) (hN : N ≤ 4000) (hm : Own.AVin G As b .byte vs) :
    Own.Ct G [] (⟨"java/util/Arrays", "copyOf", "([BI)[B"⟩ : MethodName) jdk_65_method_121_code 3 (some (.array .byte)) ({ frames := 1, cells := 1, slots := N, locals := 18 } : Room) [.ref b, .int n.toInt32] As Li (fun v A L => ∃ o, v = some (.ref o) ∧ A = (o, true, Own.arr .byte (vs ++ List.replicate (n - vs.length) (Value.int 0))) :: As ∧ Li = L) := by
  refine Own.Ct.intro pn_15054465 (Ls := [.val (.ref b), .val (.int n.toInt32), .unset]) rfl rfl ?_
  intro K
  refine Own.W.iloadN (pc := 0) d47_0 rfl ?_
  refine Own.W.aloadN (pc := 1) d47_1 rfl rfl ?_
  refine Own.W.alen (pc := 2) d47_2 hm (z := vs.length.toInt32) rfl ?_
  refine Own.W.ic_ne (pc := 3) 14 d47_3 (by decide) (by decide) ?_ (fun h3 => absurd h3 (Own.n_ne (by omega) (by omega) (by omega)))
  intro h3
  refine Own.W.iloadN (pc := 14) d47_14 rfl ?_
  refine Own.W.newP (pc := 15) N (hw _ (List.mem_of_getElem? (i := 19) rfl)) d47_15 rfl (Own.n_nn (by omega)) (by rw [Own.n_clamp (by omega)]; omega) (by omega) (vs := (List.replicate n (Value.int 0))) (by rw [Own.n_clamp (by omega)]; rfl) (Nat.le_of_ble_eq_true rfl) (by first | exact Nat.le_of_ble_eq_true rfl | (simp; done) | (simp; omega)) ?_
  intro o15
  refine Own.W.astoreN (pc := 17) (Ls' := [_, _, _]) d47_17 rfl rfl rfl ?_
  refine Own.W.aloadN (pc := 18) d47_18 rfl rfl ?_
  refine Own.W.iconst (pc := 19) (z := (0 : Int32)) d47_19 (by decide) ?_
  refine Own.W.aloadN (pc := 20) d47_20 rfl rfl ?_
  refine Own.W.iconst (pc := 21) (z := (0 : Int32)) d47_21 (by decide) ?_
  refine Own.W.aloadN (pc := 22) d47_22 rfl rfl ?_
  refine Own.W.alen (pc := 23) d47_23 (hm.sub (Own.Sub.cons (Own.Sub.refl _))) (z := vs.length.toInt32) rfl ?_
  refine Own.W.iloadN (pc := 24) d47_24 rfl ?_
  refine Own.W.callS (pc := 25) (ct_min G hw vs.length n (by omega) (by omega)) d47_25 (hw _ (List.mem_of_getElem? (i := 226) rfl)) (hw _ (List.mem_of_getElem? (i := 227) rfl)) (hw _ (List.mem_of_getElem? (i := 228) rfl)) (hw _ (List.mem_of_getElem? (i := 229) rfl)) (by decide) pd_84293393 rfl rfl (Nat.le_of_ble_eq_true rfl) (Nat.le_of_ble_eq_true rfl) (by first | exact Nat.le_of_ble_eq_true rfl | (simp; done) | (simp; omega)) (by first | exact Nat.le_of_ble_eq_true rfl | (simp; done) | (simp; omega)) ?_
  rintro _ _ _ ⟨rfl, rfl, rfl⟩
  refine Own.W.acopy (pc := 28) (us := List.replicate n (Value.int 0)) d47_28 (hw _ (List.mem_of_getElem? (i := 230) rfl)) (hw _ (List.mem_of_getElem? (i := 163) rfl)) (hw _ (List.mem_of_getElem? (i := 161) rfl)) (hw _ (List.mem_of_getElem? (i := 162) rfl)) (hm.sub (Own.Sub.cons (Own.Sub.refl _))) rfl (by decide) (by decide) (Own.n_nn (by omega)) (i := 0) rfl (j := 0) rfl (n := vs.length) (by rw [Own.n_clamp (by omega)]; omega) (by omega) (by simp; omega) (us' := vs ++ List.replicate (n - vs.length) (Value.int 0)) (by simp) (by repeat (first | exact Own.Upd.head | exact Own.Upd.mid | apply Own.Upd.tail)) (Nat.le_of_ble_eq_true rfl) (Nat.le_of_ble_eq_true rfl) ?_
  refine Own.W.aloadN (pc := 31) d47_31 rfl rfl ?_
  refine Own.W.aret (pc := 32) d47_32 rfl rfl rfl ?_ (by first | exact Nat.le_of_ble_eq_true rfl | (simp; done) | (simp; omega)) (by first | exact Nat.le_of_ble_eq_true rfl | (simp; done) | (simp; omega))
  exact ⟨_, rfl, rfl, rfl⟩
theorem d36_0 : decode jdk_65_method_131_code 0 = .ok (.iload_n 1, 1) := by decide +kernel
theorem d36_1 : decode jdk_65_method_131_code 1 = .ok (.iload_n 0, 1) := by decide +kernel
theorem d36_2 : decode jdk_65_method_131_code 2 = .ok (.if_icmp .ge 35, 3) := by decide +kernel
theorem d36_37 : decode jdk_65_method_131_code 37 = .ok (.return_, 1) := by decide +kernel
theorem pn_95794678 : plainFor (⟨"java/util/Arrays", "checkLength", "(II)V"⟩ : MethodName) = true := by first | exact plainFor_of_name (by first | (simp [plainName, overriddenIn]; done) | decide +kernel) | decide +kernel
set_option maxRecDepth 65536 in
set_option maxHeartbeats 4000000 in
theorem ct_ckl (G : Own.Gx) (hw : ∀ d ∈ tables_1, d.before G.a0 G.Z = true) {As : List Own.Ent} {Li : List Own.LitE} (a b : Nat) (h : a ≤ b) (hb : b < 2147483648) :
    Own.Ct G [] (⟨"java/util/Arrays", "checkLength", "(II)V"⟩ : MethodName) jdk_65_method_131_code 2 none ({ frames := 0, cells := 0, slots := 0, locals := 0 } : Room) [.int a.toInt32, .int b.toInt32] As Li (fun v A L => v = none ∧ As = A ∧ Li = L) := by
  refine Own.Ct.intro pn_95794678 (Ls := [.val (.int a.toInt32), .val (.int b.toInt32)]) rfl rfl ?_
  intro K
  refine Own.W.iloadN (pc := 0) d36_0 rfl ?_
  refine Own.W.iloadN (pc := 1) d36_1 rfl ?_
  refine Own.W.ic_ge (pc := 2) 37 d36_2 (by decide) (by decide) ?_ (fun h2 => absurd h2 (Own.n_nlt h hb))
  intro h2
  refine Own.W.vret (pc := 37) d36_37 rfl ?_ (Nat.le_of_ble_eq_true rfl) (Nat.le_of_ble_eq_true rfl)
  exact ⟨rfl, rfl, rfl⟩
theorem d35_0 : decode jdk_65_method_133_code 0 = .ok (.iload_n 1, 1) := by decide +kernel
theorem d35_1 : decode jdk_65_method_133_code 1 = .ok (.iload_n 2, 1) := by decide +kernel
theorem d35_2 : decode jdk_65_method_133_code 2 = .ok (.invokestatic 343, 3) := by decide +kernel
theorem pd_84293406 : parseMethodDescriptor "(II)V" = some ⟨[.int, .int], none⟩ := by decide +kernel
theorem d35_5 : decode jdk_65_method_133_code 5 = .ok (.iload_n 2, 1) := by decide +kernel
theorem d35_6 : decode jdk_65_method_133_code 6 = .ok (.iload_n 1, 1) := by decide +kernel
theorem d35_7 : decode jdk_65_method_133_code 7 = .ok (.isub, 1) := by decide +kernel
theorem d35_8 : decode jdk_65_method_133_code 8 = .ok (.istore_n 3, 1) := by decide +kernel
theorem d35_9 : decode jdk_65_method_133_code 9 = .ok (.iload_n 3, 1) := by decide +kernel
theorem d35_10 : decode jdk_65_method_133_code 10 = .ok (.newarray .byte, 2) := by decide +kernel
theorem d35_12 : decode jdk_65_method_133_code 12 = .ok (.astore 4, 2) := by decide +kernel
theorem d35_14 : decode jdk_65_method_133_code 14 = .ok (.aload_n 0, 1) := by decide +kernel
theorem d35_15 : decode jdk_65_method_133_code 15 = .ok (.iload_n 1, 1) := by decide +kernel
theorem d35_16 : decode jdk_65_method_133_code 16 = .ok (.aload 4, 2) := by decide +kernel
theorem d35_18 : decode jdk_65_method_133_code 18 = .ok (.iconst 0, 1) := by decide +kernel
theorem d35_19 : decode jdk_65_method_133_code 19 = .ok (.aload_n 0, 1) := by decide +kernel
theorem d35_20 : decode jdk_65_method_133_code 20 = .ok (.arraylength, 1) := by decide +kernel
theorem d35_21 : decode jdk_65_method_133_code 21 = .ok (.iload_n 1, 1) := by decide +kernel
theorem d35_22 : decode jdk_65_method_133_code 22 = .ok (.isub, 1) := by decide +kernel
theorem d35_23 : decode jdk_65_method_133_code 23 = .ok (.iload_n 3, 1) := by decide +kernel
theorem d35_24 : decode jdk_65_method_133_code 24 = .ok (.invokestatic 304, 3) := by decide +kernel
theorem d35_27 : decode jdk_65_method_133_code 27 = .ok (.invokestatic 150, 3) := by decide +kernel
theorem d35_30 : decode jdk_65_method_133_code 30 = .ok (.aload 4, 2) := by decide +kernel
theorem d35_32 : decode jdk_65_method_133_code 32 = .ok (.areturn, 1) := by decide +kernel
theorem pn_91036491 : plainFor (⟨"java/util/Arrays", "copyOfRangeByte", "([BII)[B"⟩ : MethodName) = true := by first | exact plainFor_of_name (by first | (simp [plainName, overriddenIn]; done) | decide +kernel) | decide +kernel
set_option maxRecDepth 65536 in
set_option maxHeartbeats 4000000 in
theorem ct_crb (G : Own.Gx) (hw : ∀ d ∈ tables_1, d.before G.a0 G.Z = true) {As : List Own.Ent} {Li : List Own.LitE} (b : Addr) (vs : List Value) (n N : Nat) (hv : n < vs.length) (hv31 : vs.length < 2147483648) (hn : n ≤ N) (hN : N ≤ 4000) (hm : Own.AVin G As b .byte vs) :
    Own.Ct G [] (⟨"java/util/Arrays", "copyOfRangeByte", "([BII)[B"⟩ : MethodName) jdk_65_method_133_code 5 (some (.array .byte)) ({ frames := 1, cells := 1, slots := N, locals := 18 } : Room) [.ref b, .int 0, .int n.toInt32] As Li (fun v A L => ∃ o, v = some (.ref o) ∧ A = (o, true, Own.arr .byte (vs.take n)) :: As ∧ Li = L) := by
  refine Own.Ct.intro pn_91036491 (Ls := [.val (.ref b), .val (.int 0), .val (.int n.toInt32), .unset, .unset]) rfl rfl ?_
  intro K
  refine Own.W.iloadN (pc := 0) d35_0 rfl ?_
  refine Own.W.iloadN (pc := 1) d35_1 rfl ?_
  refine Own.W.callS (pc := 2) (ct_ckl G hw 0 n (by omega) (by omega)) d35_2 (hw _ (List.mem_of_getElem? (i := 223) rfl)) (hw _ (List.mem_of_getElem? (i := 224) rfl)) (hw _ (List.mem_of_getElem? (i := 218) rfl)) (hw _ (List.mem_of_getElem? (i := 225) rfl)) (by decide) pd_84293406 rfl rfl (Nat.le_of_ble_eq_true rfl) (Nat.le_of_ble_eq_true rfl) (by first | exact Nat.le_of_ble_eq_true rfl | (simp; done) | (simp; omega)) (by first | exact Nat.le_of_ble_eq_true rfl | (simp; done) | (simp; omega)) ?_
  rintro _ _ _ ⟨rfl, rfl, rfl⟩
  refine Own.W.iloadN (pc := 5) d35_5 rfl ?_
  refine Own.W.iloadN (pc := 6) d35_6 rfl ?_
  refine Own.W.isub (pc := 7) d35_7 (z := n.toInt32) (Int32.sub_zero _) ?_
  refine Own.W.istoreN (pc := 8) (Ls' := [_, _, _, _, _]) d35_8 rfl rfl ?_
  refine Own.W.iloadN (pc := 9) d35_9 rfl ?_
  refine Own.W.newP (pc := 10) N (hw _ (List.mem_of_getElem? (i := 19) rfl)) d35_10 rfl (Own.n_nn (by omega)) (by rw [Own.n_clamp (by omega)]; omega) (by omega) (vs := (List.replicate n (Value.int 0))) (by rw [Own.n_clamp (by omega)]; rfl) (Nat.le_of_ble_eq_true rfl) (by first | exact Nat.le_of_ble_eq_true rfl | (simp; done) | (simp; omega)) ?_
  intro o10
  refine Own.W.astore (pc := 12) (Ls' := [_, _, _, _, _]) d35_12 rfl rfl rfl ?_
  refine Own.W.aloadN (pc := 14) d35_14 rfl rfl ?_
  refine Own.W.iloadN (pc := 15) d35_15 rfl ?_
  refine Own.W.aload (pc := 16) d35_16 rfl rfl ?_
  refine Own.W.iconst (pc := 18) (z := (0 : Int32)) d35_18 (by decide) ?_
  refine Own.W.aloadN (pc := 19) d35_19 rfl rfl ?_
  refine Own.W.alen (pc := 20) d35_20 (hm.sub (Own.Sub.cons (Own.Sub.refl _))) (z := vs.length.toInt32) rfl ?_
  refine Own.W.iloadN (pc := 21) d35_21 rfl ?_
  refine Own.W.isub (pc := 22) d35_22 (z := vs.length.toInt32) (Int32.sub_zero _) ?_
  refine Own.W.iloadN (pc := 23) d35_23 rfl ?_
  refine Own.W.callS (pc := 24) (ct_min G hw vs.length n (by omega) (by omega)) d35_24 (hw _ (List.mem_of_getElem? (i := 226) rfl)) (hw _ (List.mem_of_getElem? (i := 227) rfl)) (hw _ (List.mem_of_getElem? (i := 228) rfl)) (hw _ (List.mem_of_getElem? (i := 229) rfl)) (by decide) pd_84293393 rfl rfl (Nat.le_of_ble_eq_true rfl) (Nat.le_of_ble_eq_true rfl) (by first | exact Nat.le_of_ble_eq_true rfl | (simp; done) | (simp; omega)) (by first | exact Nat.le_of_ble_eq_true rfl | (simp; done) | (simp; omega)) ?_
  rintro _ _ _ ⟨rfl, rfl, rfl⟩
  refine Own.W.acopy (pc := 27) (us := List.replicate n (Value.int 0)) d35_27 (hw _ (List.mem_of_getElem? (i := 230) rfl)) (hw _ (List.mem_of_getElem? (i := 163) rfl)) (hw _ (List.mem_of_getElem? (i := 161) rfl)) (hw _ (List.mem_of_getElem? (i := 162) rfl)) (hm.sub (Own.Sub.cons (Own.Sub.refl _))) rfl (by decide) (by decide) (Own.n_nn (by omega)) (i := 0) rfl (j := 0) rfl (n := n) (by rw [Own.n_clamp (by omega)]; omega) (by omega) (by simp) (us' := vs.take n) (by simp) (by repeat (first | exact Own.Upd.head | exact Own.Upd.mid | apply Own.Upd.tail)) (Nat.le_of_ble_eq_true rfl) (Nat.le_of_ble_eq_true rfl) ?_
  refine Own.W.aload (pc := 30) d35_30 rfl rfl ?_
  refine Own.W.aret (pc := 32) d35_32 rfl rfl rfl ?_ (by first | exact Nat.le_of_ble_eq_true rfl | (simp; done) | (simp; omega)) (by first | exact Nat.le_of_ble_eq_true rfl | (simp; done) | (simp; omega))
  exact ⟨_, rfl, rfl, rfl⟩
theorem d34_0 : decode jdk_65_method_132_code 0 = .ok (.iload_n 1, 1) := by decide +kernel
theorem d34_1 : decode jdk_65_method_132_code 1 = .ok (.ifCond .ne 9, 3) := by decide +kernel
theorem d34_4 : decode jdk_65_method_132_code 4 = .ok (.iload_n 2, 1) := by decide +kernel
theorem d34_5 : decode jdk_65_method_132_code 5 = .ok (.aload_n 0, 1) := by decide +kernel
theorem d34_6 : decode jdk_65_method_132_code 6 = .ok (.arraylength, 1) := by decide +kernel
theorem d34_7 : decode jdk_65_method_132_code 7 = .ok (.if_icmp .eq 10, 3) := by decide +kernel
theorem d34_17 : decode jdk_65_method_132_code 17 = .ok (.aload_n 0, 1) := by decide +kernel
theorem d34_18 : decode jdk_65_method_132_code 18 = .ok (.invokevirtual 310, 3) := by decide +kernel
theorem d34_21 : decode jdk_65_method_132_code 21 = .ok (.checkcast 311, 3) := by decide +kernel
theorem d34_24 : decode jdk_65_method_132_code 24 = .ok (.areturn, 1) := by decide +kernel
theorem d34_10 : decode jdk_65_method_132_code 10 = .ok (.aload_n 0, 1) := by decide +kernel
theorem d34_11 : decode jdk_65_method_132_code 11 = .ok (.iload_n 1, 1) := by decide +kernel
theorem d34_12 : decode jdk_65_method_132_code 12 = .ok (.iload_n 2, 1) := by decide +kernel
theorem d34_13 : decode jdk_65_method_132_code 13 = .ok (.invokestatic 339, 3) := by decide +kernel
theorem pd_47730210 : parseMethodDescriptor "([BII)[B" = some ⟨[(.array .byte), .int, .int], some (.array .byte)⟩ := by decide +kernel
theorem d34_16 : decode jdk_65_method_132_code 16 = .ok (.areturn, 1) := by decide +kernel
theorem pn_89026999 : plainFor (⟨"java/util/Arrays", "copyOfRange", "([BII)[B"⟩ : MethodName) = true := by first | exact plainFor_of_name (by first | (simp [plainName, overriddenIn]; done) | decide +kernel) | decide +kernel
set_option maxRecDepth 65536 in
set_option maxHeartbeats 4000000 in
theorem ct_cor (G : Own.Gx) (hw : ∀ d ∈ tables_1, d.before G.a0 G.Z = true) {As : List Own.Ent} {Li : List Own.LitE} (b : Addr) (vs : List Value) (n N : Nat) (hv : n ≤ vs.length) (hv31 : vs.length < 2147483648) (hn : n ≤ N) (hN : N ≤ 4000) (hm : (b, true, Own.arr .byte vs) ∈ As) :
    Own.Ct G [] (⟨"java/util/Arrays", "copyOfRange", "([BII)[B"⟩ : MethodName) jdk_65_method_132_code 3 (some (.array .byte)) ({ frames := 2, cells := 1, slots := N, locals := 34 } : Room) [.ref b, .int 0, .int n.toInt32] As Li (fun v A L => ∃ o, v = some (.ref o) ∧ A = (o, true, Own.arr .byte (vs.take n)) :: As ∧ Li = L) := by
  refine Own.Ct.intro pn_89026999 (Ls := [.val (.ref b), .val (.int 0), .val (.int n.toInt32)]) rfl rfl ?_
  intro K
  refine Own.W.iloadN (pc := 0) d34_0 rfl ?_
  refine Own.W.if_ne (pc := 1) 10 d34_1 (by decide) (by decide) (fun h1 => absurd h1 (fun q => q rfl)) ?_
  intro h1
  refine Own.W.iloadN (pc := 4) d34_4 rfl ?_
  refine Own.W.aloadN (pc := 5) d34_5 rfl rfl ?_
  refine Own.W.alen (pc := 6) d34_6 (Own.AVin.mem hm) (z := vs.length.toInt32) rfl ?_
  by_cases hnl : n = vs.length
  · subst hnl
    refine Own.W.ic_eq (pc := 7) 17 d34_7 (by decide) (by decide) ?_ (fun h7 => absurd h7 (fun q => q rfl))
    intro h7
    refine Own.W.aloadN (pc := 17) d34_17 rfl rfl ?_
    refine Own.W.cloneB (pc := 18) N d34_18 (hw _ (List.mem_of_getElem? (i := 266) rfl)) (hw _ (List.mem_of_getElem? (i := 267) rfl)) (hw _ (List.mem_of_getElem? (i := 271) rfl)) (hw _ (List.mem_of_getElem? (i := 269) rfl)) (hw _ (List.mem_of_getElem? (i := 270) rfl)) (hw _ (List.mem_of_getElem? (i := 272) rfl)) hm (by omega) (Nat.le_of_ble_eq_true rfl) (Nat.le_of_ble_eq_true rfl) (Nat.le_of_ble_eq_true rfl) (by first | exact Nat.le_of_ble_eq_true rfl | (simp; done) | (simp; omega)) ?_
    intro o
    refine Own.W.castB (D := "[B") (pc := 21) (hw _ (List.mem_of_getElem? (i := 273) rfl)) d34_21 (List.Mem.head _) ?_
    refine Own.W.aret (pc := 24) d34_24 rfl rfl rfl ?_ (by first | exact Nat.le_of_ble_eq_true rfl | (simp; done) | (simp; omega)) (by first | exact Nat.le_of_ble_eq_true rfl | (simp; done) | (simp; omega))
    exact ⟨o, rfl, by rw [List.take_length], rfl⟩
  · refine Own.W.ic_eq (pc := 7) 17 d34_7 (by decide) (by decide) (fun h7 => absurd h7 (Own.n_ne (by omega) (by omega) (by omega))) ?_
    intro h7
    refine Own.W.aloadN (pc := 10) d34_10 rfl rfl ?_
    refine Own.W.iloadN (pc := 11) d34_11 rfl ?_
    refine Own.W.iloadN (pc := 12) d34_12 rfl ?_
    refine Own.W.callS (pc := 13) (ct_crb G hw b vs n N (by omega) hv31 hn hN (Own.AVin.mem hm)) d34_13 (hw _ (List.mem_of_getElem? (i := 220) rfl)) (hw _ (List.mem_of_getElem? (i := 221) rfl)) (hw _ (List.mem_of_getElem? (i := 218) rfl)) (hw _ (List.mem_of_getElem? (i := 222) rfl)) (by decide) pd_47730210 rfl rfl (Nat.le_of_ble_eq_true rfl) (Nat.le_of_ble_eq_true rfl) (by first | exact Nat.le_of_ble_eq_true rfl | (simp; done) | (simp; omega)) (by first | exact Nat.le_of_ble_eq_true rfl | (simp; done) | (simp; omega)) ?_
    rintro _ _ _ ⟨o, rfl, rfl, rfl⟩
    refine Own.W.aret (pc := 16) d34_16 rfl rfl rfl ?_ (by first | exact Nat.le_of_ble_eq_true rfl | (simp; done) | (simp; omega)) (by first | exact Nat.le_of_ble_eq_true rfl | (simp; done) | (simp; omega))
    exact ⟨_, rfl, rfl, rfl⟩
theorem d18_0 : decode jdk_42_method_152_code 0 = .ok (.getstatic 38, 3) := by decide +kernel
theorem d18_3 : decode jdk_42_method_152_code 3 = .ok (.ifCond .eq 10, 3) := by decide +kernel
theorem d18_6 : decode jdk_42_method_152_code 6 = .ok (.aload_n 0, 1) := by decide +kernel
theorem d18_7 : decode jdk_42_method_152_code 7 = .ok (.getfield 15, 3) := by decide +kernel
theorem d18_10 : decode jdk_42_method_152_code 10 = .ok (.goto 4, 3) := by decide +kernel
theorem d18_14 : decode jdk_42_method_152_code 14 = .ok (.ireturn, 1) := by decide +kernel
theorem pn_39421446 : plainFor (⟨"java/lang/String", "coder", "()B"⟩ : MethodName) = true := by first | exact plainFor_of_name (by first | (simp [plainName, overriddenIn]; done) | decide +kernel) | decide +kernel
set_option maxRecDepth 65536 in
set_option maxHeartbeats 4000000 in
theorem ct_coder (G : Own.Gx) (hw : ∀ d ∈ tables_1, d.before G.a0 G.Z = true) (hC : Own.CSt G) {As : List Own.Ent} {Li : List Own.LitE} (a : Addr) (vs : List Value) (z : Int32) (hz : narrow .byte (.int z) = .int z) (ha : Own.StrIn G As a vs z) :
    Own.Ct G [] (⟨"java/lang/String", "coder", "()B"⟩ : MethodName) jdk_42_method_152_code 1 (some .byte) ({ frames := 0, cells := 0, slots := 0, locals := 0 } : Room) [.ref a] As Li (fun v A L => v = some (.int z) ∧ As = A ∧ Li = L) := by
  refine Own.Ct.intro pn_39421446 (Ls := [.val (.ref a)]) rfl rfl ?_
  intro K
  obtain ⟨cz, hC1, hC2⟩ := hC
  obtain ⟨ab, a1, a2, a3, a4⟩ := ha
  refine Own.W.getS (pc := 0) (host := "") (Or.inl (hw _ (List.mem_of_getElem? (i := 14) rfl))) (Via.refl (O := "java/lang/String")) d18_0 hC1 ?_
  refine Own.W.if_eq (pc := 3) 13 d18_3 (by decide) (by decide) (fun h3 => absurd h3 hC2) ?_
  intro h3
  refine Own.W.aloadN (pc := 6) d18_6 rfl rfl ?_
  refine Own.W.getI (pc := 7) (host := "") (Or.inl (hw _ (List.mem_of_getElem? (i := 26) rfl))) (Via.refl (O := "java/lang/String")) d18_7 a3 ?_
  refine Own.W.goto (pc := 10) 14 d18_10 (by decide) (by decide) ?_
  refine Own.W.iret (pc := 14) d18_14 rfl (by simp) hz ?_ (Nat.le_of_ble_eq_true rfl) (Nat.le_of_ble_eq_true rfl)
  exact ⟨rfl, rfl, rfl⟩
theorem d17_0 : decode jdk_42_method_54_code 0 = .ok (.aload_n 0, 1) := by decide +kernel
theorem d17_1 : decode jdk_42_method_54_code 1 = .ok (.getfield 9, 3) := by decide +kernel
theorem d17_4 : decode jdk_42_method_54_code 4 = .ok (.arraylength, 1) := by decide +kernel
theorem d17_5 : decode jdk_42_method_54_code 5 = .ok (.aload_n 0, 1) := by decide +kernel
theorem d17_6 : decode jdk_42_method_54_code 6 = .ok (.invokevirtual 335, 3) := by decide +kernel
theorem pd_93421976 : parseMethodDescriptor "()B" = some ⟨[], some .byte⟩ := by decide +kernel
theorem d17_9 : decode jdk_42_method_54_code 9 = .ok (.ishr, 1) := by decide +kernel
theorem d17_10 : decode jdk_42_method_54_code 10 = .ok (.ireturn, 1) := by decide +kernel
theorem pn_17394242 : plainFor (⟨"java/lang/String", "length", "()I"⟩ : MethodName) = true := by first | exact plainFor_of_name (by first | (simp [plainName, overriddenIn]; done) | decide +kernel) | decide +kernel
set_option maxRecDepth 65536 in
set_option maxHeartbeats 4000000 in
theorem ct_slen (G : Own.Gx) (hw : ∀ d ∈ tables_1, d.before G.a0 G.Z = true) (hC : Own.CSt G) {As : List Own.Ent} {Li : List Own.LitE} (a : Addr) (vs : List Value) (n : Int32) (ha : Own.StrIn G As a vs 0) (hn : vs.length.toInt32 = n) :
    Own.Ct G [] (⟨"java/lang/String", "length", "()I"⟩ : MethodName) jdk_42_method_54_code 1 (some .int) ({ frames := 1, cells := 0, slots := 0, locals := 13 } : Room) [.ref a] As Li (fun v A L => v = some (.int n) ∧ As = A ∧ Li = L) := by
  refine Own.Ct.intro pn_17394242 (Ls := [.val (.ref a)]) rfl rfl ?_
  intro K
  obtain ⟨ab, a1, a2, a3, a4⟩ := id ha
  refine Own.W.aloadN (pc := 0) d17_0 rfl rfl ?_
  refine Own.W.getI (pc := 1) (host := "") (Or.inl (hw _ (List.mem_of_getElem? (i := 28) rfl))) (Via.refl (O := "java/lang/String")) d17_1 a2 ?_
  refine Own.W.alen (pc := 4) d17_4 a4 hn ?_
  refine Own.W.aloadN (pc := 5) d17_5 rfl rfl ?_
  refine Own.W.callV (pc := 6) (ct_coder G hw hC a vs 0 rfl ha) d17_6 (C := "java/lang/String") ha.is (hw _ (List.mem_of_getElem? (i := 132) rfl)) (hw _ (List.mem_of_getElem? (i := 133) rfl)) (Own.nf_sel (hw _ (List.mem_of_getElem? (i := 135) rfl))) (hw _ (List.mem_of_getElem? (i := 135) rfl)) (hw _ (List.mem_of_getElem? (i := 134) rfl)) (hw _ (List.mem_of_getElem? (i := 3) rfl)) (hw _ (List.mem_of_getElem? (i := 136) rfl)) (by decide) pd_93421976 rfl rfl (Nat.le_of_ble_eq_true rfl) (Nat.le_of_ble_eq_true rfl) (Nat.le_of_ble_eq_true rfl) (Nat.le_of_ble_eq_true rfl) ?_
  rintro _ _ _ ⟨rfl, rfl, rfl⟩
  refine Own.W.ishr (pc := 9) d17_9 (z := n) (by rw [show ((0 : Int32) &&& 31) = 0 from by decide]; exact Own.shr0 n) ?_
  refine Own.W.iret (pc := 10) d17_10 rfl (by simp) rfl ?_ (Nat.le_of_ble_eq_true rfl) (Nat.le_of_ble_eq_true rfl)
  exact ⟨rfl, rfl, rfl⟩
def F_java_lang_StringBuilder : List Own.Fd := [("java/lang/AbstractStringBuilder", "value", "[B"), ("java/lang/AbstractStringBuilder", "coder", "B"), ("java/lang/AbstractStringBuilder", "count", "I")]
theorem LF_java_lang_StringBuilder (G : Own.Gx) (hw : ∀ d ∈ tables_1, d.before G.a0 G.Z = true) : Own.LaidAll G.Z G.a0 "java/lang/StringBuilder" F_java_lang_StringBuilder := ⟨by decide, Own.LaidAll.cons (Or.inl (hw _ (List.mem_of_getElem? (i := 114) rfl))) (t := (.array .byte)) (by decide) (Own.LaidAll.cons (Or.inl (hw _ (List.mem_of_getElem? (i := 116) rfl))) (t := .byte) (by decide) (Own.LaidAll.cons (Or.inl (hw _ (List.mem_of_getElem? (i := 138) rfl))) (t := .int) (by decide) (Own.LaidAll.nil)))⟩
theorem d14_0 : decode jdk_68_method_2_code 0 = .ok (.aload_n 0, 1) := by decide +kernel
theorem d14_1 : decode jdk_68_method_2_code 1 = .ok (.invokespecial 3, 3) := by decide +kernel
theorem d14_4 : decode jdk_68_method_2_code 4 = .ok (.getstatic 18, 3) := by decide +kernel
theorem d14_7 : decode jdk_68_method_2_code 7 = .ok (.ifCond .eq 18, 3) := by decide +kernel
theorem d14_10 : decode jdk_68_method_2_code 10 = .ok (.aload_n 0, 1) := by decide +kernel
theorem d14_11 : decode jdk_68_method_2_code 11 = .ok (.iload_n 1, 1) := by decide +kernel
theorem d14_12 : decode jdk_68_method_2_code 12 = .ok (.newarray .byte, 2) := by decide +kernel
theorem d14_14 : decode jdk_68_method_2_code 14 = .ok (.putfield 15, 3) := by decide +kernel
theorem d14_17 : decode jdk_68_method_2_code 17 = .ok (.aload_n 0, 1) := by decide +kernel
theorem d14_18 : decode jdk_68_method_2_code 18 = .ok (.iconst 0, 1) := by decide +kernel
theorem d14_19 : decode jdk_68_method_2_code 19 = .ok (.putfield 22, 3) := by decide +kernel
theorem d14_22 : decode jdk_68_method_2_code 22 = .ok (.goto 16, 3) := by decide +kernel
theorem d14_38 : decode jdk_68_method_2_code 38 = .ok (.return_, 1) := by decide +kernel
theorem pn_97596319 : plainFor (⟨"java/lang/AbstractStringBuilder", "<init>", "(I)V"⟩ : MethodName) = true := by first | exact plainFor_of_name (by first | (simp [plainName, overriddenIn]; done) | decide +kernel) | decide +kernel
set_option maxRecDepth 65536 in
set_option maxHeartbeats 4000000 in
theorem ct_asbi (G : Own.Gx) (hw : ∀ d ∈ tables_1, d.before G.a0 G.Z = true) (hC : Own.CSt G) {As : List Own.Ent} {Li : List Own.LitE} (o : Addr) :
    Own.Ct G [] (⟨"java/lang/AbstractStringBuilder", "<init>", "(I)V"⟩ : MethodName) jdk_68_method_2_code 2 none ({ frames := 1, cells := 1, slots := 16, locals := 12 } : Room) [.ref o, .int 16] ((o, true, Own.obj "java/lang/StringBuilder" F_java_lang_StringBuilder [.null, .int 0, .int 0]) :: As) Li (fun v A L => ∃ b, v = none ∧ A = (o, true, Own.obj "java/lang/StringBuilder" F_java_lang_StringBuilder [.ref b, .int 0, .int ([] : List Int32).length.toInt32]) :: (b, true, Own.arr .byte (Own.pad [] 16)) :: As ∧ Li = L) := by
  refine Own.Ct.intro pn_97596319 (Ls := [.val (.ref o), .val (.int 16)]) rfl rfl ?_
  intro K
  obtain ⟨cz, hC1, hC2⟩ := hC
  refine Own.W.aloadN (pc := 0) d14_0 rfl rfl ?_
  refine Own.W.callO (pc := 1) d14_1 (hw _ (List.mem_of_getElem? (i := 111) rfl)) (hw _ (List.mem_of_getElem? (i := 12) rfl)) (hw _ (List.mem_of_getElem? (i := 13) rfl)) (Nat.le_of_ble_eq_true rfl) (Nat.le_of_ble_eq_true rfl) ?_
  refine Own.W.getS (pc := 4) (host := "") (Or.inl (hw _ (List.mem_of_getElem? (i := 112) rfl))) (Via.refl (O := "java/lang/String")) d14_4 hC1 ?_
  refine Own.W.if_eq (pc := 7) 25 d14_7 (by decide) (by decide) (fun h7 => absurd h7 hC2) ?_
  intro h7
  refine Own.W.aloadN (pc := 10) d14_10 rfl rfl ?_
  refine Own.W.iloadN (pc := 11) d14_11 rfl ?_
  refine Own.W.newP (pc := 12) 16 (hw _ (List.mem_of_getElem? (i := 19) rfl)) d14_12 rfl (by decide) (Nat.le_of_ble_eq_true rfl) (by decide) (vs := (List.replicate 16 (Value.int 0))) rfl (Nat.le_of_ble_eq_true rfl) (Nat.le_of_ble_eq_true rfl) ?_
  intro o12
  refine Own.W.putF (pc := 14) (host := "") (Or.inl (hw _ (List.mem_of_getElem? (i := 113) rfl))) (Via.refl (O := "java/lang/AbstractStringBuilder")) d14_14 (Or.inl (hw _ (List.mem_of_getElem? (i := 114) rfl))) (hw _ (List.mem_of_getElem? (i := 100) rfl)) (ty := (.array .byte)) (by decide) rfl rfl (by repeat (first | exact Own.Upd.head | exact Own.Upd.mid | apply Own.Upd.tail)) (by repeat (first | exact Own.FUp.head | apply Own.FUp.tail)) ?_
  refine Own.W.aloadN (pc := 17) d14_17 rfl rfl ?_
  refine Own.W.iconst (pc := 18) (z := (0 : Int32)) d14_18 (by decide) ?_
  refine Own.W.putN (pc := 19) (hw _ (List.mem_of_getElem? (i := 115) rfl)) (Via.refl (O := "java/lang/AbstractStringBuilder")) d14_19 (Or.inl (hw _ (List.mem_of_getElem? (i := 116) rfl))) (hw _ (List.mem_of_getElem? (i := 100) rfl)) (ty := .byte) (by decide) rfl (by first | rfl | decide) (by repeat (first | exact Own.Upd.head | exact Own.Upd.mid | apply Own.Upd.tail)) (by repeat (first | exact Own.FUp.head | apply Own.FUp.tail)) ?_
  refine Own.W.goto (pc := 22) 38 d14_22 (by decide) (by decide) ?_
  refine Own.W.perm ?_ (List.Perm.swap _ _ _)
  refine Own.W.vret (pc := 38) d14_38 rfl  ?_ (Nat.le_of_ble_eq_true rfl) (Nat.le_of_ble_eq_true rfl)
  exact ⟨_, rfl, rfl, rfl⟩
theorem d13_0 : decode jdk_67_method_1_code 0 = .ok (.aload_n 0, 1) := by decide +kernel
theorem d13_1 : decode jdk_67_method_1_code 1 = .ok (.bipush 16, 2) := by decide +kernel
theorem d13_3 : decode jdk_67_method_1_code 3 = .ok (.invokespecial 1, 3) := by decide +kernel
theorem pd_87992021 : parseMethodDescriptor "(I)V" = some ⟨[.int], none⟩ := by decide +kernel
theorem d13_6 : decode jdk_67_method_1_code 6 = .ok (.return_, 1) := by decide +kernel
theorem pn_53695586 : plainFor (⟨"java/lang/StringBuilder", "<init>", "()V"⟩ : MethodName) = true := by first | exact plainFor_of_name (by first | (simp [plainName, overriddenIn]; done) | decide +kernel) | decide +kernel
set_option maxRecDepth 65536 in
set_option maxHeartbeats 4000000 in
theorem ct_sbi (G : Own.Gx) (hw : ∀ d ∈ tables_1, d.before G.a0 G.Z = true) (hC : Own.CSt G) {As : List Own.Ent} {Li : List Own.LitE} (o : Addr) :
    Own.Ct G [] (⟨"java/lang/StringBuilder", "<init>", "()V"⟩ : MethodName) jdk_67_method_1_code 1 none ({ frames := 2, cells := 1, slots := 16, locals := 25 } : Room) [.ref o] ((o, true, Own.obj "java/lang/StringBuilder" F_java_lang_StringBuilder [.null, .int 0, .int 0]) :: As) Li (fun v A L => ∃ b, v = none ∧ A = (o, true, Own.obj "java/lang/StringBuilder" F_java_lang_StringBuilder [.ref b, .int 0, .int ([] : List Int32).length.toInt32]) :: (b, true, Own.arr .byte (Own.pad [] 16)) :: As ∧ Li = L) := by
  refine Own.Ct.intro pn_53695586 (Ls := [.val (.ref o)]) rfl rfl ?_
  intro K
  refine Own.W.aloadN (pc := 0) d13_0 rfl rfl ?_
  refine Own.W.bipush (pc := 1) (z := (16 : Int32)) d13_1 (by decide) ?_
  refine Own.W.callI (pc := 3) (ct_asbi G hw hC o) d13_3 rfl (hw _ (List.mem_of_getElem? (i := 105) rfl)) (hw _ (List.mem_of_getElem? (i := 106) rfl)) (hw _ (List.mem_of_getElem? (i := 109) rfl)) (hw _ (List.mem_of_getElem? (i := 110) rfl)) (by decide) pd_87992021 rfl rfl (Nat.le_of_ble_eq_true rfl) (Nat.le_of_ble_eq_true rfl) (Nat.le_of_ble_eq_true rfl) (Nat.le_of_ble_eq_true rfl) ?_
  rintro _ _ _ ⟨b, rfl, rfl, rfl⟩
  refine Own.W.vret (pc := 6) d13_6 rfl  ?_ (Nat.le_of_ble_eq_true rfl) (Nat.le_of_ble_eq_true rfl)
  exact ⟨_, rfl, rfl, rfl⟩
theorem d45_0 : decode jdk_48_method_27_code 0 = .ok (.iload_n 0, 1) := by decide +kernel
theorem d45_1 : decode jdk_48_method_27_code 1 = .ok (.iload_n 1, 1) := by decide +kernel
theorem d45_2 : decode jdk_48_method_27_code 2 = .ok (.iload_n 2, 1) := by decide +kernel
theorem d45_3 : decode jdk_48_method_27_code 3 = .ok (.invokestatic 194, 3) := by decide +kernel
theorem d45_6 : decode jdk_48_method_27_code 6 = .ok (.iadd, 1) := by decide +kernel
theorem d45_7 : decode jdk_48_method_27_code 7 = .ok (.istore_n 3, 1) := by decide +kernel
theorem d45_8 : decode jdk_48_method_27_code 8 = .ok (.iconst 0, 1) := by decide +kernel
theorem d45_9 : decode jdk_48_method_27_code 9 = .ok (.iload_n 3, 1) := by decide +kernel
theorem d45_10 : decode jdk_48_method_27_code 10 = .ok (.if_icmp .ge 11, 3) := by decide +kernel
theorem d45_13 : decode jdk_48_method_27_code 13 = .ok (.iload_n 3, 1) := by decide +kernel
theorem d45_14 : decode jdk_48_method_27_code 14 = .ok (.ldc 200, 2) := by decide +kernel
theorem d45_16 : decode jdk_48_method_27_code 16 = .ok (.if_icmp .gt 5, 3) := by decide +kernel
theorem d45_19 : decode jdk_48_method_27_code 19 = .ok (.iload_n 3, 1) := by decide +kernel
theorem d45_20 : decode jdk_48_method_27_code 20 = .ok (.ireturn, 1) := by decide +kernel
theorem pn_9506430 : plainFor (⟨"jdk/internal/util/ArraysSupport", "newLength", "(III)I"⟩ : MethodName) = true := by first | exact plainFor_of_name (by first | (simp [plainName, overriddenIn]; done) | decide +kernel) | decide +kernel
set_option maxRecDepth 65536 in
set_option maxHeartbeats 4000000 in
theorem ct_nln (G : Own.Gx) (hw : ∀ d ∈ tables_1, d.before G.a0 G.Z = true) {As : List Own.Ent} {Li : List Own.LitE} (p q r : Nat) (h0 : 0 < p + max q r) (hb : p + max q r ≤ 100000) :
    Own.Ct G [] (⟨"jdk/internal/util/ArraysSupport", "newLength", "(III)I"⟩ : MethodName) jdk_48_method_27_code 4 (some .int) ({ frames := 1, cells := 0, slots := 0, locals := 14 } : Room) [.int p.toInt32, .int q.toInt32, .int r.toInt32] As Li (fun v A L => v = some (.int (p + max q r).toInt32) ∧ As = A ∧ Li = L) := by
  refine Own.Ct.intro pn_9506430 (Ls := [.val (.int p.toInt32), .val (.int q.toInt32), .val (.int r.toInt32), .unset]) rfl rfl ?_
  intro K
  refine Own.W.iloadN (pc := 0) d45_0 rfl ?_
  refine Own.W.iloadN (pc := 1) d45_1 rfl ?_
  refine Own.W.iloadN (pc := 2) d45_2 rfl ?_
  refine Own.W.callS (pc := 3) (ct_max G hw q r (by omega) (by omega)) d45_3 (hw _ (List.mem_of_getElem? (i := 284) rfl)) (hw _ (List.mem_of_getElem? (i := 285) rfl)) (hw _ (List.mem_of_getElem? (i := 228) rfl)) (hw _ (List.mem_of_getElem? (i := 286) rfl)) (by decide) pd_84293393 rfl rfl (Nat.le_of_ble_eq_true rfl) (Nat.le_of_ble_eq_true rfl) (Nat.le_of_ble_eq_true rfl) (Nat.le_of_ble_eq_true rfl) ?_
  rintro _ _ _ ⟨rfl, rfl, rfl⟩
  refine Own.W.iadd (pc := 6) d45_6 (z := (p + max q r).toInt32) (Own.n_add _ _) ?_
  refine Own.W.istoreN (pc := 7) (Ls' := [_, _, _, _]) d45_7 rfl rfl ?_
  refine Own.W.iconst (pc := 8) (z := (0 : Int32)) d45_8 (by decide) ?_
  refine Own.W.iloadN (pc := 9) d45_9 rfl ?_
  refine Own.W.ic_ge (pc := 10) 21 d45_10 (by decide) (by decide) (fun h10 => absurd h10 (fun q => q (Own.n_pos h0 (by omega)))) ?_
  intro h10
  refine Own.W.iloadN (pc := 13) d45_13 rfl ?_
  refine Own.W.ldcI (pc := 14) (z := 2147483639) (hw _ (List.mem_of_getElem? (i := 287) rfl)) d45_14 ?_
  refine Own.W.ic_gt (pc := 16) 21 d45_16 (by decide) (by decide) (fun h16 => absurd h16 (Own.n_nlt (a := 2147483639) (by omega) (by decide))) ?_
  intro h16
  refine Own.W.iloadN (pc := 19) d45_19 rfl ?_
  refine Own.W.iret (pc := 20) d45_20 rfl (by simp) rfl ?_ (Nat.le_of_ble_eq_true rfl) (Nat.le_of_ble_eq_true rfl)
  exact ⟨rfl, rfl, rfl⟩
theorem d44_0 : decode jdk_68_method_10_code 0 = .ok (.aload_n 0, 1) := by decide +kernel
theorem d44_1 : decode jdk_68_method_10_code 1 = .ok (.getfield 15, 3) := by decide +kernel
theorem d44_4 : decode jdk_68_method_10_code 4 = .ok (.arraylength, 1) := by decide +kernel
theorem d44_5 : decode jdk_68_method_10_code 5 = .ok (.istore_n 2, 1) := by decide +kernel
theorem d44_6 : decode jdk_68_method_10_code 6 = .ok (.iload_n 1, 1) := by decide +kernel
theorem d44_7 : decode jdk_68_method_10_code 7 = .ok (.aload_n 0, 1) := by decide +kernel
theorem d44_8 : decode jdk_68_method_10_code 8 = .ok (.getfield 22, 3) := by decide +kernel
theorem d44_11 : decode jdk_68_method_10_code 11 = .ok (.ishl, 1) := by decide +kernel
theorem d44_12 : decode jdk_68_method_10_code 12 = .ok (.istore_n 3, 1) := by decide +kernel
theorem d44_13 : decode jdk_68_method_10_code 13 = .ok (.iload_n 3, 1) := by decide +kernel
theorem d44_14 : decode jdk_68_method_10_code 14 = .ok (.iload_n 2, 1) := by decide +kernel
theorem d44_15 : decode jdk_68_method_10_code 15 = .ok (.isub, 1) := by decide +kernel
theorem d44_16 : decode jdk_68_method_10_code 16 = .ok (.istore 4, 2) := by decide +kernel
theorem d44_18 : decode jdk_68_method_10_code 18 = .ok (.iload_n 2, 1) := by decide +kernel
theorem d44_19 : decode jdk_68_method_10_code 19 = .ok (.iload 4, 2) := by decide +kernel
theorem d44_21 : decode jdk_68_method_10_code 21 = .ok (.iload_n 2, 1) := by decide +kernel
theorem d44_22 : decode jdk_68_method_10_code 22 = .ok (.iconst 2, 1) := by decide +kernel
theorem d44_23 : decode jdk_68_method_10_code 23 = .ok (.aload_n 0, 1) := by decide +kernel
theorem d44_24 : decode jdk_68_method_10_code 24 = .ok (.getfield 22, 3) := by decide +kernel
theorem d44_27 : decode jdk_68_method_10_code 27 = .ok (.ishl, 1) := by decide +kernel
theorem d44_28 : decode jdk_68_method_10_code 28 = .ok (.iadd, 1) := by decide +kernel
theorem d44_29 : decode jdk_68_method_10_code 29 = .ok (.invokestatic 114, 3) := by decide +kernel
theorem pd_86748538 : parseMethodDescriptor "(III)I" = some ⟨[.int, .int, .int], some .int⟩ := by decide +kernel
theorem d44_32 : decode jdk_68_method_10_code 32 = .ok (.istore 5, 2) := by decide +kernel
theorem d44_34 : decode jdk_68_method_10_code 34 = .ok (.iload 5, 2) := by decide +kernel
theorem d44_36 : decode jdk_68_method_10_code 36 = .ok (.ldc 39, 2) := by decide +kernel
theorem d44_38 : decode jdk_68_method_10_code 38 = .ok (.if_icmp .ne 13, 3) := by decide +kernel
theorem d44_51 : decode jdk_68_method_10_code 51 = .ok (.iload 5, 2) := by decide +kernel
theorem d44_53 : decode jdk_68_method_10_code 53 = .ok (.aload_n 0, 1) := by decide +kernel
theorem d44_54 : decode jdk_68_method_10_code 54 = .ok (.getfield 22, 3) := by decide +kernel
theorem d44_57 : decode jdk_68_method_10_code 57 = .ok (.ishr, 1) := by decide +kernel
theorem d44_58 : decode jdk_68_method_10_code 58 = .ok (.ireturn, 1) := by decide +kernel
theorem pn_73406812 : plainFor (⟨"java/lang/AbstractStringBuilder", "newCapacity", "(I)I"⟩ : MethodName) = true := by first | exact plainFor_of_name (by first | (simp [plainName, overriddenIn]; done) | decide +kernel) | decide +kernel
set_option maxRecDepth 65536 in
set_option maxHeartbeats 4000000 in
theorem ct_ncp (G : Own.Gx) (hw : ∀ d ∈ tables_1, d.before G.a0 G.Z = true) {As : List Own.Ent} {Li : List Own.LitE} (o b : Addr) (xs : List Int32) (cap : Nat) (hxc : xs.length ≤ cap) (hcap : cap ≤ 4000) (mn : Nat) (hmn : mn ≤ 4000) (hgt : ¬ mn ≤ cap) :
    Own.Ct G [] (⟨"java/lang/AbstractStringBuilder", "newCapacity", "(I)I"⟩ : MethodName) jdk_68_method_10_code 6 (some .int) ({ frames := 2, cells := 0, slots := 0, locals := 29 } : Room) [.ref o, .int mn.toInt32] ((o, true, Own.obj "java/lang/StringBuilder" F_java_lang_StringBuilder [.ref b, .int 0, .int xs.length.toInt32]) :: (b, true, Own.arr .byte (Own.pad xs cap)) :: As) Li (fun v A L => v = some (.int (Own.grow cap mn).toInt32) ∧ A = ((o, true, Own.obj "java/lang/StringBuilder" F_java_lang_StringBuilder [.ref b, .int 0, .int xs.length.toInt32]) :: (b, true, Own.arr .byte (Own.pad xs cap)) :: As) ∧ Li = L) := by
  refine Own.Ct.intro pn_73406812 (Ls := [.val (.ref o), .val (.int mn.toInt32), .unset, .unset, .unset, .unset]) rfl rfl ?_
  intro K
  refine Own.W.aloadN (pc := 0) d44_0 rfl rfl ?_
  refine Own.W.getF (pc := 1) (host := "") (Or.inl (hw _ (List.mem_of_getElem? (i := 113) rfl))) (Via.refl (O := "java/lang/AbstractStringBuilder")) d44_1 (by repeat (first | exact List.Mem.head _ | assumption | exact List.mem_append_right _ (List.Mem.head _) | apply List.Mem.tail)) (by repeat (first | exact Own.FAt.head | apply Own.FAt.tail)) ?_
  refine Own.W.alen (pc := 4) d44_4 (Own.AVin.mem (List.Mem.tail _ (List.Mem.head _))) (z := cap.toInt32) (by rw [Own.pad_len hxc]) ?_
  refine Own.W.istoreN (pc := 5) (Ls' := [_, _, _, _, _, _]) d44_5 rfl rfl ?_
  refine Own.W.iloadN (pc := 6) d44_6 rfl ?_
  refine Own.W.aloadN (pc := 7) d44_7 rfl rfl ?_
  refine Own.W.getF (pc := 8) (host := "") (Or.inl (hw _ (List.mem_of_getElem? (i := 115) rfl))) (Via.refl (O := "java/lang/AbstractStringBuilder")) d44_8 (by repeat (first | exact List.Mem.head _ | assumption | exact List.mem_append_right _ (List.Mem.head _) | apply List.Mem.tail)) (by repeat (first | exact Own.FAt.head | apply Own.FAt.tail)) ?_
  refine Own.W.ishl (pc := 11) d44_11 (z := mn.toInt32) (Own.shl0 _) ?_
  refine Own.W.istoreN (pc := 12) (Ls' := [_, _, _, _, _, _]) d44_12 rfl rfl ?_
  refine Own.W.iloadN (pc := 13) d44_13 rfl ?_
  refine Own.W.iloadN (pc := 14) d44_14 rfl ?_
  refine Own.W.isub (pc := 15) d44_15 (z := (mn - cap).toInt32) (Own.n_sub (by omega)) ?_
  refine Own.W.istore (pc := 16) (Ls' := [_, _, _, _, _, _]) d44_16 rfl rfl ?_
  refine Own.W.iloadN (pc := 18) d44_18 rfl ?_
  refine Own.W.iload (pc := 19) d44_19 rfl ?_
  refine Own.W.iloadN (pc := 21) d44_21 rfl ?_
  refine Own.W.iconst (pc := 22) (z := (2 : Int32)) d44_22 (by decide) ?_
  refine Own.W.aloadN (pc := 23) d44_23 rfl rfl ?_
  refine Own.W.getF (pc := 24) (host := "") (Or.inl (hw _ (List.mem_of_getElem? (i := 115) rfl))) (Via.refl (O := "java/lang/AbstractStringBuilder")) d44_24 (by repeat (first | exact List.Mem.head _ | assumption | exact List.mem_append_right _ (List.Mem.head _) | apply List.Mem.tail)) (by repeat (first | exact Own.FAt.head | apply Own.FAt.tail)) ?_
  refine Own.W.ishl (pc := 27) d44_27 (z := 2) (Own.shl0 _) ?_
  refine Own.W.iadd (pc := 28) d44_28 (z := (cap + 2).toInt32) (Own.n_add cap 2) ?_
  refine Own.W.callS (pc := 29) (ct_nln G hw cap (mn - cap) (cap + 2) (by omega) (by omega)) d44_29 (hw _ (List.mem_of_getElem? (i := 280) rfl)) (hw _ (List.mem_of_getElem? (i := 281) rfl)) (hw _ (List.mem_of_getElem? (i := 282) rfl)) (hw _ (List.mem_of_getElem? (i := 283) rfl)) (by decide) pd_86748538 rfl rfl (Nat.le_of_ble_eq_true rfl) (Nat.le_of_ble_eq_true rfl) (Nat.le_of_ble_eq_true rfl) (Nat.le_of_ble_eq_true rfl) ?_
  rintro _ _ _ ⟨rfl, rfl, rfl⟩
  refine Own.W.istore (pc := 32) (Ls' := [_, _, _, _, _, _]) d44_32 rfl rfl ?_
  refine Own.W.iload (pc := 34) d44_34 rfl ?_
  refine Own.W.ldcI (pc := 36) (z := 2147483647) (hw _ (List.mem_of_getElem? (i := 288) rfl)) d44_36 ?_
  refine Own.W.ic_ne (pc := 38) 51 d44_38 (by decide) (by decide) ?_ (fun h38 => absurd h38 (Own.n_ne (b := 2147483647) (by omega) (by omega) (by decide)))
  intro h38
  refine Own.W.iload (pc := 51) d44_51 rfl ?_
  refine Own.W.aloadN (pc := 53) d44_53 rfl rfl ?_
  refine Own.W.getF (pc := 54) (host := "") (Or.inl (hw _ (List.mem_of_getElem? (i := 115) rfl))) (Via.refl (O := "java/lang/AbstractStringBuilder")) d44_54 (by repeat (first | exact List.Mem.head _ | assumption | exact List.mem_append_right _ (List.Mem.head _) | apply List.Mem.tail)) (by repeat (first | exact Own.FAt.head | apply Own.FAt.tail)) ?_
  refine Own.W.ishr (pc := 57) d44_57 (z := (cap + max (mn - cap) (cap + 2)).toInt32) (Own.shr0' _) ?_
  refine Own.W.iret (pc := 58) d44_58 rfl (by simp) rfl ?_ (Nat.le_of_ble_eq_true rfl) (Nat.le_of_ble_eq_true rfl)
  exact ⟨by rw [Own.grow_gt hgt], rfl, rfl⟩
theorem d19_0 : decode jdk_68_method_9_code 0 = .ok (.aload_n 0, 1) := by decide +kernel
theorem d19_1 : decode jdk_68_method_9_code 1 = .ok (.getfield 15, 3) := by decide +kernel
theorem d19_4 : decode jdk_68_method_9_code 4 = .ok (.arraylength, 1) := by decide +kernel
theorem d19_5 : decode jdk_68_method_9_code 5 = .ok (.aload_n 0, 1) := by decide +kernel
theorem d19_6 : decode jdk_68_method_9_code 6 = .ok (.getfield 22, 3) := by decide +kernel
theorem d19_9 : decode jdk_68_method_9_code 9 = .ok (.ishr, 1) := by decide +kernel
theorem d19_10 : decode jdk_68_method_9_code 10 = .ok (.istore_n 2, 1) := by decide +kernel
theorem d19_11 : decode jdk_68_method_9_code 11 = .ok (.iload_n 1, 1) := by decide +kernel
theorem d19_12 : decode jdk_68_method_9_code 12 = .ok (.iload_n 2, 1) := by decide +kernel
theorem d19_13 : decode jdk_68_method_9_code 13 = .ok (.isub, 1) := by decide +kernel
theorem d19_14 : decode jdk_68_method_9_code 14 = .ok (.ifCond .le 24, 3) := by decide +kernel
theorem d19_38 : decode jdk_68_method_9_code 38 = .ok (.return_, 1) := by decide +kernel
theorem d19_17 : decode jdk_68_method_9_code 17 = .ok (.aload_n 0, 1) := by decide +kernel
theorem d19_18 : decode jdk_68_method_9_code 18 = .ok (.aload_n 0, 1) := by decide +kernel
theorem d19_19 : decode jdk_68_method_9_code 19 = .ok (.getfield 15, 3) := by decide +kernel
theorem d19_22 : decode jdk_68_method_9_code 22 = .ok (.aload_n 0, 1) := by decide +kernel
theorem d19_23 : decode jdk_68_method_9_code 23 = .ok (.iload_n 1, 1) := by decide +kernel
theorem d19_24 : decode jdk_68_method_9_code 24 = .ok (.invokevirtual 104, 3) := by decide +kernel
theorem pd_87992008 : parseMethodDescriptor "(I)I" = some ⟨[.int], some .int⟩ := by decide +kernel
theorem d19_27 : decode jdk_68_method_9_code 27 = .ok (.aload_n 0, 1) := by decide +kernel
theorem d19_28 : decode jdk_68_method_9_code 28 = .ok (.getfield 22, 3) := by decide +kernel
theorem d19_31 : decode jdk_68_method_9_code 31 = .ok (.ishl, 1) := by decide +kernel
theorem d19_32 : decode jdk_68_method_9_code 32 = .ok (.invokestatic 108, 3) := by decide +kernel
theorem pd_24263193 : parseMethodDescriptor "([BI)[B" = some ⟨[(.array .byte), .int], some (.array .byte)⟩ := by decide +kernel
theorem d19_35 : decode jdk_68_method_9_code 35 = .ok (.putfield 15, 3) := by decide +kernel
theorem pn_20301582 : plainFor (⟨"java/lang/AbstractStringBuilder", "ensureCapacityInternal", "(I)V"⟩ : MethodName) = true := by first | exact plainFor_of_name (by first | (simp [plainName, overriddenIn]; done) | decide +kernel) | decide +kernel
set_option maxRecDepth 65536 in
set_option maxHeartbeats 4000000 in
theorem ct_eci (G : Own.Gx) (hw : ∀ d ∈ tables_1, d.before G.a0 G.Z = true) {As : List Own.Ent} {Li : List Own.LitE} (o b : Addr) (xs : List Int32) (cap : Nat) (hxc : xs.length ≤ cap) (hcap : cap ≤ 4000) (mn N : Nat) (hmn : mn ≤ 4000) (hN : Own.grow cap mn ≤ N) (hN4 : N ≤ 4000) :
    Own.Ct G [] (⟨"java/lang/AbstractStringBuilder", "ensureCapacityInternal", "(I)V"⟩ : MethodName) jdk_68_method_9_code 3 none ({ frames := 3, cells := 1, slots := N, locals := 48 } : Room) [.ref o, .int mn.toInt32] ((o, true, Own.obj "java/lang/StringBuilder" F_java_lang_StringBuilder [.ref b, .int 0, .int xs.length.toInt32]) :: (b, true, Own.arr .byte (Own.pad xs cap)) :: As) Li (fun v A L => ∃ b2 A0, v = none ∧ A = ((o, true, Own.obj "java/lang/StringBuilder" F_java_lang_StringBuilder [.ref b2, .int 0, .int xs.length.toInt32]) :: (b2, true, Own.arr .byte (Own.pad xs (Own.grow cap mn))) :: A0) ∧ Own.Sub As A0 ∧ Li = L) := by
  refine Own.Ct.intro pn_20301582 (Ls := [.val (.ref o), .val (.int mn.toInt32), .unset]) rfl rfl ?_
  intro K
  refine Own.W.aloadN (pc := 0) d19_0 rfl rfl ?_
  refine Own.W.getF (pc := 1) (host := "") (Or.inl (hw _ (List.mem_of_getElem? (i := 113) rfl))) (Via.refl (O := "java/lang/AbstractStringBuilder")) d19_1 (by repeat (first | exact List.Mem.head _ | assumption | exact List.mem_append_right _ (List.Mem.head _) | apply List.Mem.tail)) (by repeat (first | exact Own.FAt.head | apply Own.FAt.tail)) ?_
  refine Own.W.alen (pc := 4) d19_4 (Own.AVin.mem (List.Mem.tail _ (List.Mem.head _))) (z := cap.toInt32) (by rw [Own.pad_len hxc]) ?_
  refine Own.W.aloadN (pc := 5) d19_5 rfl rfl ?_
  refine Own.W.getF (pc := 6) (host := "") (Or.inl (hw _ (List.mem_of_getElem? (i := 115) rfl))) (Via.refl (O := "java/lang/AbstractStringBuilder")) d19_6 (by repeat (first | exact List.Mem.head _ | assumption | exact List.mem_append_right _ (List.Mem.head _) | apply List.Mem.tail)) (by repeat (first | exact Own.FAt.head | apply Own.FAt.tail)) ?_
  refine Own.W.ishr (pc := 9) d19_9 (z := cap.toInt32) (Own.shr0' _) ?_
  refine Own.W.istoreN (pc := 10) (Ls' := [_, _, _]) d19_10 rfl rfl ?_
  refine Own.W.iloadN (pc := 11) d19_11 rfl ?_
  refine Own.W.iloadN (pc := 12) d19_12 rfl ?_
  by_cases hg : mn ≤ cap
  · refine Own.W.isub (pc := 13) d19_13 rfl ?_
    refine Own.W.if_le (pc := 14) 38 d19_14 (by decide) (by decide) ?_ (fun h14 => absurd h14 (Own.n_subnp hg (by omega)))
    intro h14
    refine Own.W.vret (pc := 38) d19_38 rfl  ?_ (by first | exact Nat.le_of_ble_eq_true rfl | (simp; done) | (simp; omega)) (by first | exact Nat.le_of_ble_eq_true rfl | (simp; done) | (simp; omega))
    exact ⟨b, As, rfl, by rw [Own.grow_le hg], Own.Sub.refl _, rfl⟩
  · have hgr := Own.grow_gt hg
    refine Own.W.isub (pc := 13) d19_13 (z := (mn - cap).toInt32) (Own.n_sub (by omega)) ?_
    refine Own.W.if_le (pc := 14) 38 d19_14 (by decide) (by decide) (fun h14 => absurd h14 (fun q => q (Own.n_pos (by omega) (by omega)))) ?_
    intro h14
    refine Own.W.aloadN (pc := 17) d19_17 rfl rfl ?_
    refine Own.W.aloadN (pc := 18) d19_18 rfl rfl ?_
    refine Own.W.getF (pc := 19) (host := "") (Or.inl (hw _ (List.mem_of_getElem? (i := 113) rfl))) (Via.refl (O := "java/lang/AbstractStringBuilder")) d19_19 (by repeat (first | exact List.Mem.head _ | assumption | exact List.mem_append_right _ (List.Mem.head _) | apply List.Mem.tail)) (by repeat (first | exact Own.FAt.head | apply Own.FAt.tail)) ?_
    refine Own.W.aloadN (pc := 22) d19_22 rfl rfl ?_
    refine Own.W.iloadN (pc := 23) d19_23 rfl ?_
    refine Own.W.callV (pc := 24) (ct_ncp G hw o b xs cap hxc hcap mn hmn hg) d19_24 (C := "java/lang/StringBuilder") (Own.Is.mem (List.Mem.head _)) (hw _ (List.mem_of_getElem? (i := 275) rfl)) (Own.decl_of (hw _ (List.mem_of_getElem? (i := 276) rfl)) (hw _ (List.mem_of_getElem? (i := 279) rfl))) (Own.nf_sel (hw _ (List.mem_of_getElem? (i := 278) rfl))) (hw _ (List.mem_of_getElem? (i := 278) rfl)) (hw _ (List.mem_of_getElem? (i := 276) rfl)) (hw _ (List.mem_of_getElem? (i := 109) rfl)) (hw _ (List.mem_of_getElem? (i := 279) rfl)) (by decide) pd_87992008 rfl rfl (Nat.le_of_ble_eq_true rfl) (Nat.le_of_ble_eq_true rfl) (by first | exact Nat.le_of_ble_eq_true rfl | (simp; done) | (simp; omega)) (by first | exact Nat.le_of_ble_eq_true rfl | (simp; done) | (simp; omega)) ?_
    rintro _ _ _ ⟨rfl, rfl, rfl⟩
    refine Own.W.aloadN (pc := 27) d19_27 rfl rfl ?_
    refine Own.W.getF (pc := 28) (host := "") (Or.inl (hw _ (List.mem_of_getElem? (i := 115) rfl))) (Via.refl (O := "java/lang/AbstractStringBuilder")) d19_28 (by repeat (first | exact List.Mem.head _ | assumption | exact List.mem_append_right _ (List.Mem.head _) | apply List.Mem.tail)) (by repeat (first | exact Own.FAt.head | apply Own.FAt.tail)) ?_
    refine Own.W.ishl (pc := 31) d19_31 (z := (Own.grow cap mn).toInt32) (Own.shl0 _) ?_
    refine Own.W.callS (pc := 32) (ct_cpy G hw b _ (Own.grow cap mn) N (by rw [Own.pad_len hxc]; omega) hN hN4 (Own.AVin.mem (List.Mem.tail _ (List.Mem.head _)))) d19_32 (hw _ (List.mem_of_getElem? (i := 289) rfl)) (hw _ (List.mem_of_getElem? (i := 290) rfl)) (hw _ (List.mem_of_getElem? (i := 218) rfl)) (hw _ (List.mem_of_getElem? (i := 291) rfl)) (by decide) pd_24263193 rfl rfl (Nat.le_of_ble_eq_true rfl) (Nat.le_of_ble_eq_true rfl) (by first | exact Nat.le_of_ble_eq_true rfl | (simp; done) | (simp; omega)) (by first | exact Nat.le_of_ble_eq_true rfl | (simp; done) | (simp; omega)) ?_
    rintro _ _ _ ⟨b2, rfl, rfl, rfl⟩
    refine Own.W.putF (pc := 35) (host := "") (Or.inl (hw _ (List.mem_of_getElem? (i := 113) rfl))) (Via.refl (O := "java/lang/AbstractStringBuilder")) d19_35 (Or.inl (hw _ (List.mem_of_getElem? (i := 114) rfl))) (hw _ (List.mem_of_getElem? (i := 100) rfl)) (ty := (.array .byte)) (by decide) rfl rfl (by repeat (first | exact Own.Upd.head | exact Own.Upd.mid | apply Own.Upd.tail)) (by repeat (first | exact Own.FUp.head | apply Own.FUp.tail)) ?_
    refine Own.W.perm ?_ (List.Perm.swap _ _ _)
    rw [Own.pad_len hxc, Own.pad_grow hxc (by omega)]
    refine Own.W.vret (pc := 38) d19_38 rfl  ?_ (by first | exact Nat.le_of_ble_eq_true rfl | (simp; done) | (simp; omega)) (by first | exact Nat.le_of_ble_eq_true rfl | (simp; done) | (simp; omega))
    exact ⟨b2, _, rfl, rfl, Own.Sub.cons (Own.Sub.refl _), rfl⟩
theorem d21_0 : decode jdk_68_method_71_code 0 = .ok (.getstatic 18, 3) := by decide +kernel
theorem d21_3 : decode jdk_68_method_71_code 3 = .ok (.ifCond .eq 18, 3) := by decide +kernel
theorem d21_6 : decode jdk_68_method_71_code 6 = .ok (.aload_n 0, 1) := by decide +kernel
theorem d21_7 : decode jdk_68_method_71_code 7 = .ok (.getfield 22, 3) := by decide +kernel
theorem d21_10 : decode jdk_68_method_71_code 10 = .ok (.aload_n 1, 1) := by decide +kernel
theorem d21_11 : decode jdk_68_method_71_code 11 = .ok (.invokevirtual 40, 3) := by decide +kernel
theorem d21_14 : decode jdk_68_method_71_code 14 = .ok (.if_icmp .eq 7, 3) := by decide +kernel
theorem d21_21 : decode jdk_68_method_71_code 21 = .ok (.return_, 1) := by decide +kernel
theorem pn_21961446 : plainFor (⟨"java/lang/AbstractStringBuilder", "inflateIfNeededFor", "(Ljava/lang/String;)V"⟩ : MethodName) = true := by first | exact plainFor_of_name (by first | (simp [plainName, overriddenIn]; done) | decide +kernel) | decide +kernel
set_option maxRecDepth 65536 in
set_option maxHeartbeats 4000000 in
theorem ct_inf (G : Own.Gx) (hw : ∀ d ∈ tables_1, d.before G.a0 G.Z = true) (hC : Own.CSt G) {As : List Own.Ent} {Li : List Own.LitE} (o b : Addr) (xs : List Int32) (cap : Nat) (hxc : xs.length ≤ cap) (hcap : cap ≤ 4000) (s : Addr) (ys : List Int32) (hs : Own.StrF As s (ys.map Value.int)) :
    Own.Ct G [] (⟨"java/lang/AbstractStringBuilder", "inflateIfNeededFor", "(Ljava/lang/String;)V"⟩ : MethodName) jdk_68_method_71_code 2 none ({ frames := 1, cells := 0, slots := 0, locals := 13 } : Room) [.ref o, .ref s] ((o, true, Own.obj "java/lang/StringBuilder" F_java_lang_StringBuilder [.ref b, .int 0, .int xs.length.toInt32]) :: (b, true, Own.arr .byte (Own.pad xs cap)) :: As) Li (fun v A L => v = none ∧ A = ((o, true, Own.obj "java/lang/StringBuilder" F_java_lang_StringBuilder [.ref b, .int 0, .int xs.length.toInt32]) :: (b, true, Own.arr .byte (Own.pad xs cap)) :: As) ∧ Li = L) := by
  refine Own.Ct.intro pn_21961446 (Ls := [.val (.ref o), .val (.ref s)]) rfl rfl ?_
  intro K
  obtain ⟨cz, hC1, hC2⟩ := hC
  refine Own.W.getS (pc := 0) (host := "") (Or.inl (hw _ (List.mem_of_getElem? (i := 112) rfl))) (Via.refl (O := "java/lang/String")) d21_0 hC1 ?_
  refine Own.W.if_eq (pc := 3) 21 d21_3 (by decide) (by decide) (fun h3 => absurd h3 hC2) ?_
  intro h3
  refine Own.W.aloadN (pc := 6) d21_6 rfl rfl ?_
  refine Own.W.getF (pc := 7) (host := "") (Or.inl (hw _ (List.mem_of_getElem? (i := 115) rfl))) (Via.refl (O := "java/lang/AbstractStringBuilder")) d21_7 (by repeat (first | exact List.Mem.head _ | assumption | exact List.mem_append_right _ (List.Mem.head _) | apply List.Mem.tail)) (by repeat (first | exact Own.FAt.head | apply Own.FAt.tail)) ?_
  refine Own.W.aloadN (pc := 10) d21_10 rfl rfl ?_
  refine Own.W.callV (pc := 11) (ct_coder G hw ⟨cz, hC1, hC2⟩ s _ 0 rfl (hs.sub (Own.Sub.cons (Own.Sub.cons (Own.Sub.refl _)))).str) d21_11 (C := "java/lang/String") (hs.sub (Own.Sub.cons (Own.Sub.cons (Own.Sub.refl _)))).is (hw _ (List.mem_of_getElem? (i := 154) rfl)) (hw _ (List.mem_of_getElem? (i := 133) rfl)) (Own.nf_sel (hw _ (List.mem_of_getElem? (i := 135) rfl))) (hw _ (List.mem_of_getElem? (i := 135) rfl)) (hw _ (List.mem_of_getElem? (i := 134) rfl)) (hw _ (List.mem_of_getElem? (i := 3) rfl)) (hw _ (List.mem_of_getElem? (i := 136) rfl)) (by decide) pd_93421976 rfl rfl (Nat.le_of_ble_eq_true rfl) (Nat.le_of_ble_eq_true rfl) (Nat.le_of_ble_eq_true rfl) (Nat.le_of_ble_eq_true rfl) ?_
  rintro _ _ _ ⟨rfl, rfl, rfl⟩
  refine Own.W.ic_eq (pc := 14) 21 d21_14 (by decide) (by decide) ?_ (fun h14 => absurd h14 (fun q => q rfl))
  intro h14
  refine Own.W.vret (pc := 21) d21_21 rfl ?_ (Nat.le_of_ble_eq_true rfl) (Nat.le_of_ble_eq_true rfl)
  exact ⟨rfl, rfl, rfl⟩
theorem d22_0 : decode jdk_42_method_147_code 0 = .ok (.aload_n 0, 1) := by decide +kernel
theorem d22_1 : decode jdk_42_method_147_code 1 = .ok (.invokevirtual 335, 3) := by decide +kernel
theorem d22_4 : decode jdk_42_method_147_code 4 = .ok (.iload_n 3, 1) := by decide +kernel
theorem d22_5 : decode jdk_42_method_147_code 5 = .ok (.if_icmp .ne 23, 3) := by decide +kernel
theorem d22_8 : decode jdk_42_method_147_code 8 = .ok (.aload_n 0, 1) := by decide +kernel
theorem d22_9 : decode jdk_42_method_147_code 9 = .ok (.getfield 9, 3) := by decide +kernel
theorem d22_12 : decode jdk_42_method_147_code 12 = .ok (.iconst 0, 1) := by decide +kernel
theorem d22_13 : decode jdk_42_method_147_code 13 = .ok (.aload_n 1, 1) := by decide +kernel
theorem d22_14 : decode jdk_42_method_147_code 14 = .ok (.iload_n 2, 1) := by decide +kernel
theorem d22_15 : decode jdk_42_method_147_code 15 = .ok (.iload_n 3, 1) := by decide +kernel
theorem d22_16 : decode jdk_42_method_147_code 16 = .ok (.ishl, 1) := by decide +kernel
theorem d22_17 : decode jdk_42_method_147_code 17 = .ok (.aload_n 0, 1) := by decide +kernel
theorem d22_18 : decode jdk_42_method_147_code 18 = .ok (.getfield 9, 3) := by decide +kernel
theorem d22_21 : decode jdk_42_method_147_code 21 = .ok (.arraylength, 1) := by decide +kernel
theorem d22_22 : decode jdk_42_method_147_code 22 = .ok (.invokestatic 212, 3) := by decide +kernel
theorem d22_25 : decode jdk_42_method_147_code 25 = .ok (.goto 18, 3) := by decide +kernel
theorem d22_43 : decode jdk_42_method_147_code 43 = .ok (.return_, 1) := by decide +kernel
theorem pn_79751644 : plainFor (⟨"java/lang/String", "getBytes", "([BIB)V"⟩ : MethodName) = true := by first | exact plainFor_of_name (by first | (simp [plainName, overriddenIn]; done) | decide +kernel) | decide +kernel
set_option maxRecDepth 65536 in
set_option maxHeartbeats 4000000 in
theorem ct_gby (G : Own.Gx) (hw : ∀ d ∈ tables_1, d.before G.a0 G.Z = true) (hC : Own.CSt G) {As : List Own.Ent} {Li : List Own.LitE} (x : Own.Ent) (b : Addr) (us : List Value) (n : Nat) (s : Addr) (ys : List Int32) (hs : Own.StrF As s (ys.map Value.int)) (hn : n + ys.length ≤ us.length) (hu : us.length ≤ 4000) :
    Own.Ct G [] (⟨"java/lang/String", "getBytes", "([BIB)V"⟩ : MethodName) jdk_42_method_147_code 4 none ({ frames := 1, cells := 0, slots := 0, locals := 18 } : Room) [.ref s, .ref b, .int n.toInt32, .int 0] (x :: (b, true, Own.arr .byte us) :: As) Li (fun v A L => v = none ∧ A = x :: (b, true, Own.arr .byte (us.take n ++ ys.map Value.int ++ us.drop (n + ys.length))) :: As ∧ Li = L) := by
  refine Own.Ct.intro pn_79751644 (Ls := [.val (.ref s), .val (.ref b), .val (.int n.toInt32), .val (.int 0)]) rfl rfl ?_
  intro K
  obtain ⟨ab, a1, a2, a3, a4⟩ := ((hs.sub (Own.Sub.cons (Own.Sub.cons (Own.Sub.refl _)))).str : Own.StrIn G _ s _ 0)
  refine Own.W.aloadN (pc := 0) d22_0 rfl rfl ?_
  refine Own.W.callV (pc := 1) (ct_coder G hw hC s _ 0 rfl (hs.sub (Own.Sub.cons (Own.Sub.cons (Own.Sub.refl _)))).str) d22_1 (C := "java/lang/String") (hs.sub (Own.Sub.cons (Own.Sub.cons (Own.Sub.refl _)))).is (hw _ (List.mem_of_getElem? (i := 132) rfl)) (hw _ (List.mem_of_getElem? (i := 133) rfl)) (Own.nf_sel (hw _ (List.mem_of_getElem? (i := 135) rfl))) (hw _ (List.mem_of_getElem? (i := 135) rfl)) (hw _ (List.mem_of_getElem? (i := 134) rfl)) (hw _ (List.mem_of_getElem? (i := 3) rfl)) (hw _ (List.mem_of_getElem? (i := 136) rfl)) (by decide) pd_93421976 rfl rfl (Nat.le_of_ble_eq_true rfl) (Nat.le_of_ble_eq_true rfl) (Nat.le_of_ble_eq_true rfl) (Nat.le_of_ble_eq_true rfl) ?_
  rintro _ _ _ ⟨rfl, rfl, rfl⟩
  refine Own.W.iloadN (pc := 4) d22_4 rfl ?_
  refine Own.W.ic_ne (pc := 5) 28 d22_5 (by decide) (by decide) (fun h5 => absurd h5 (fun q => q rfl)) ?_
  intro h5
  refine Own.W.aloadN (pc := 8) d22_8 rfl rfl ?_
  refine Own.W.getI (pc := 9) (host := "") (Or.inl (hw _ (List.mem_of_getElem? (i := 28) rfl))) (Via.refl (O := "java/lang/String")) d22_9 a2 ?_
  refine Own.W.iconst (pc := 12) (z := (0 : Int32)) d22_12 (by decide) ?_
  refine Own.W.aloadN (pc := 13) d22_13 rfl rfl ?_
  refine Own.W.iloadN (pc := 14) d22_14 rfl ?_
  refine Own.W.iloadN (pc := 15) d22_15 rfl ?_
  refine Own.W.ishl (pc := 16) d22_16 (z := n.toInt32) (Own.shl0 _) ?_
  refine Own.W.aloadN (pc := 17) d22_17 rfl rfl ?_
  refine Own.W.getI (pc := 18) (host := "") (Or.inl (hw _ (List.mem_of_getElem? (i := 28) rfl))) (Via.refl (O := "java/lang/String")) d22_18 a2 ?_
  refine Own.W.alen (pc := 21) d22_21 a4 (z := ys.length.toInt32) (by simp) ?_
  refine Own.W.acopy (pc := 22) (us := us) d22_22 (hw _ (List.mem_of_getElem? (i := 160) rfl)) (hw _ (List.mem_of_getElem? (i := 163) rfl)) (hw _ (List.mem_of_getElem? (i := 161) rfl)) (hw _ (List.mem_of_getElem? (i := 162) rfl)) a4 rfl (by decide) (Own.n_nn (by omega)) (Own.n_nn (by omega)) (i := 0) rfl (Own.n_clamp (by omega)) (Own.n_clamp (by omega)) (by simp) (by omega) (us' := us.take n ++ ys.map Value.int ++ us.drop (n + ys.length)) (by rw [List.drop_zero, show (ys.map Value.int).take ys.length = ys.map Value.int from List.take_of_length_le (by simp)]) (by repeat (first | exact Own.Upd.head | exact Own.Upd.mid | apply Own.Upd.tail)) (Nat.le_of_ble_eq_true rfl) (Nat.le_of_ble_eq_true rfl) ?_
  refine Own.W.goto (pc := 25) 43 d22_25 (by decide) (by decide) ?_
  refine Own.W.vret (pc := 43) d22_43 rfl ?_ (Nat.le_of_ble_eq_true rfl) (Nat.le_of_ble_eq_true rfl)
  exact ⟨rfl, rfl, rfl⟩
theorem d20_0 : decode jdk_68_method_73_code 0 = .ok (.aload_n 0, 1) := by decide +kernel
theorem d20_1 : decode jdk_68_method_73_code 1 = .ok (.aload_n 2, 1) := by decide +kernel
theorem d20_2 : decode jdk_68_method_73_code 2 = .ok (.invokevirtual 397, 3) := by decide +kernel
theorem pd_62450860 : parseMethodDescriptor "(Ljava/lang/String;)V" = some ⟨[(.object "java/lang/String")], none⟩ := by decide +kernel
theorem d20_5 : decode jdk_68_method_73_code 5 = .ok (.aload_n 2, 1) := by decide +kernel
theorem d20_6 : decode jdk_68_method_73_code 6 = .ok (.aload_n 0, 1) := by decide +kernel
theorem d20_7 : decode jdk_68_method_73_code 7 = .ok (.getfield 15, 3) := by decide +kernel
theorem d20_10 : decode jdk_68_method_73_code 10 = .ok (.iload_n 1, 1) := by decide +kernel
theorem d20_11 : decode jdk_68_method_73_code 11 = .ok (.aload_n 0, 1) := by decide +kernel
theorem d20_12 : decode jdk_68_method_73_code 12 = .ok (.getfield 22, 3) := by decide +kernel
theorem d20_15 : decode jdk_68_method_73_code 15 = .ok (.invokevirtual 399, 3) := by decide +kernel
theorem pd_24288788 : parseMethodDescriptor "([BIB)V" = some ⟨[(.array .byte), .int, .byte], none⟩ := by decide +kernel
theorem d20_18 : decode jdk_68_method_73_code 18 = .ok (.return_, 1) := by decide +kernel
theorem pn_19119446 : plainFor (⟨"java/lang/AbstractStringBuilder", "putStringAt", "(ILjava/lang/String;)V"⟩ : MethodName) = true := by first | exact plainFor_of_name (by first | (simp [plainName, overriddenIn]; done) | decide +kernel) | decide +kernel
set_option maxRecDepth 65536 in
set_option maxHeartbeats 4000000 in
theorem ct_psa (G : Own.Gx) (hw : ∀ d ∈ tables_1, d.before G.a0 G.Z = true) (hC : Own.CSt G) {As : List Own.Ent} {Li : List Own.LitE} (o b : Addr) (xs : List Int32) (cap : Nat) (hxc : xs.length ≤ cap) (hcap : cap ≤ 4000) (s : Addr) (ys : List Int32) (hs : Own.StrF As s (ys.map Value.int)) (hn : xs.length + ys.length ≤ cap) :
    Own.Ct G [] (⟨"java/lang/AbstractStringBuilder", "putStringAt", "(ILjava/lang/String;)V"⟩ : MethodName) jdk_68_method_73_code 3 none ({ frames := 2, cells := 0, slots := 0, locals := 33 } : Room) [.ref o, .int xs.length.toInt32, .ref s] ((o, true, Own.obj "java/lang/StringBuilder" F_java_lang_StringBuilder [.ref b, .int 0, .int xs.length.toInt32]) :: (b, true, Own.arr .byte (Own.pad xs cap)) :: As) Li (fun v A L => v = none ∧ A = ((o, true, Own.obj "java/lang/StringBuilder" F_java_lang_StringBuilder [.ref b, .int 0, .int xs.length.toInt32]) :: (b, true, Own.arr .byte (Own.pad (xs ++ ys) cap)) :: As) ∧ Li = L) := by
  refine Own.Ct.intro pn_19119446 (Ls := [.val (.ref o), .val (.int xs.length.toInt32), .val (.ref s)]) rfl rfl ?_
  intro K
  refine Own.W.aloadN (pc := 0) d20_0 rfl rfl ?_
  refine Own.W.aloadN (pc := 1) d20_1 rfl rfl ?_
  refine Own.W.callV (pc := 2) (ct_inf G hw hC o b xs cap hxc hcap s ys hs) d20_2 (C := "java/lang/StringBuilder") (Own.Is.mem (List.Mem.head _)) (hw _ (List.mem_of_getElem? (i := 149) rfl)) (Own.decl_of (hw _ (List.mem_of_getElem? (i := 150) rfl)) (hw _ (List.mem_of_getElem? (i := 153) rfl))) (Own.nf_sel (hw _ (List.mem_of_getElem? (i := 152) rfl))) (hw _ (List.mem_of_getElem? (i := 152) rfl)) (hw _ (List.mem_of_getElem? (i := 150) rfl)) (hw _ (List.mem_of_getElem? (i := 109) rfl)) (hw _ (List.mem_of_getElem? (i := 153) rfl)) (by decide) pd_62450860 rfl rfl (Nat.le_of_ble_eq_true rfl) (Nat.le_of_ble_eq_true rfl) (Nat.le_of_ble_eq_true rfl) (Nat.le_of_ble_eq_true rfl) ?_
  rintro _ _ _ ⟨rfl, rfl, rfl⟩
  refine Own.W.aloadN (pc := 5) d20_5 rfl rfl ?_
  refine Own.W.aloadN (pc := 6) d20_6 rfl rfl ?_
  refine Own.W.getF (pc := 7) (host := "") (Or.inl (hw _ (List.mem_of_getElem? (i := 113) rfl))) (Via.refl (O := "java/lang/AbstractStringBuilder")) d20_7 (by repeat (first | exact List.Mem.head _ | assumption | exact List.mem_append_right _ (List.Mem.head _) | apply List.Mem.tail)) (by repeat (first | exact Own.FAt.head | apply Own.FAt.tail)) ?_
  refine Own.W.iloadN (pc := 10) d20_10 rfl ?_
  refine Own.W.aloadN (pc := 11) d20_11 rfl rfl ?_
  refine Own.W.getF (pc := 12) (host := "") (Or.inl (hw _ (List.mem_of_getElem? (i := 115) rfl))) (Via.refl (O := "java/lang/AbstractStringBuilder")) d20_12 (by repeat (first | exact List.Mem.head _ | assumption | exact List.mem_append_right _ (List.Mem.head _) | apply List.Mem.tail)) (by repeat (first | exact Own.FAt.head | apply Own.FAt.tail)) ?_
  refine Own.W.callV (pc := 15) (ct_gby G hw hC _ b _ xs.length s ys hs (by rw [Own.pad_len hxc]; exact hn) (by rw [Own.pad_len hxc]; exact hcap)) d20_15 (C := "java/lang/String") (hs.sub (Own.Sub.cons (Own.Sub.cons (Own.Sub.refl _)))).is (hw _ (List.mem_of_getElem? (i := 155) rfl)) (hw _ (List.mem_of_getElem? (i := 156) rfl)) (Own.nf_sel (hw _ (List.mem_of_getElem? (i := 158) rfl))) (hw _ (List.mem_of_getElem? (i := 158) rfl)) (hw _ (List.mem_of_getElem? (i := 157) rfl)) (hw _ (List.mem_of_getElem? (i := 3) rfl)) (hw _ (List.mem_of_getElem? (i := 159) rfl)) (by decide) pd_24288788 rfl rfl (Nat.le_of_ble_eq_true rfl) (Nat.le_of_ble_eq_true rfl) (Nat.le_of_ble_eq_true rfl) (Nat.le_of_ble_eq_true rfl) ?_
  rintro _ _ _ ⟨rfl, rfl, rfl⟩
  rw [Own.pad_put hn]
  refine Own.W.vret (pc := 18) d20_18 rfl  ?_ (Nat.le_of_ble_eq_true rfl) (Nat.le_of_ble_eq_true rfl)
  exact ⟨rfl, rfl, rfl⟩
theorem d16_0 : decode jdk_68_method_22_code 0 = .ok (.aload_n 1, 1) := by decide +kernel
theorem d16_1 : decode jdk_68_method_22_code 1 = .ok (.ifnonnull 8, 3) := by decide +kernel
theorem d16_9 : decode jdk_68_method_22_code 9 = .ok (.aload_n 1, 1) := by decide +kernel
theorem d16_10 : decode jdk_68_method_22_code 10 = .ok (.invokevirtual 32, 3) := by decide +kernel
theorem pd_93421983 : parseMethodDescriptor "()I" = some ⟨[], some .int⟩ := by decide +kernel
theorem d16_13 : decode jdk_68_method_22_code 13 = .ok (.istore_n 2, 1) := by decide +kernel
theorem d16_14 : decode jdk_68_method_22_code 14 = .ok (.aload_n 0, 1) := by decide +kernel
theorem d16_15 : decode jdk_68_method_22_code 15 = .ok (.aload_n 0, 1) := by decide +kernel
theorem d16_16 : decode jdk_68_method_22_code 16 = .ok (.getfield 79, 3) := by decide +kernel
theorem d16_19 : decode jdk_68_method_22_code 19 = .ok (.iload_n 2, 1) := by decide +kernel
theorem d16_20 : decode jdk_68_method_22_code 20 = .ok (.iadd, 1) := by decide +kernel
theorem d16_21 : decode jdk_68_method_22_code 21 = .ok (.invokevirtual 100, 3) := by decide +kernel
theorem d16_24 : decode jdk_68_method_22_code 24 = .ok (.aload_n 0, 1) := by decide +kernel
theorem d16_25 : decode jdk_68_method_22_code 25 = .ok (.aload_n 0, 1) := by decide +kernel
theorem d16_26 : decode jdk_68_method_22_code 26 = .ok (.getfield 79, 3) := by decide +kernel
theorem d16_29 : decode jdk_68_method_22_code 29 = .ok (.aload_n 1, 1) := by decide +kernel
theorem d16_30 : decode jdk_68_method_22_code 30 = .ok (.invokevirtual 208, 3) := by decide +kernel
theorem pd_62292757 : parseMethodDescriptor "(ILjava/lang/String;)V" = some ⟨[.int, (.object "java/lang/String")], none⟩ := by decide +kernel
theorem d16_33 : decode jdk_68_method_22_code 33 = .ok (.aload_n 0, 1) := by decide +kernel
theorem d16_34 : decode jdk_68_method_22_code 34 = .ok (.dup, 1) := by decide +kernel
theorem d16_35 : decode jdk_68_method_22_code 35 = .ok (.getfield 79, 3) := by decide +kernel
theorem d16_38 : decode jdk_68_method_22_code 38 = .ok (.iload_n 2, 1) := by decide +kernel
theorem d16_39 : decode jdk_68_method_22_code 39 = .ok (.iadd, 1) := by decide +kernel
theorem d16_40 : decode jdk_68_method_22_code 40 = .ok (.putfield 79, 3) := by decide +kernel
theorem d16_43 : decode jdk_68_method_22_code 43 = .ok (.aload_n 0, 1) := by decide +kernel
theorem d16_44 : decode jdk_68_method_22_code 44 = .ok (.areturn, 1) := by decide +kernel
theorem pn_39640229 : plainFor (⟨"java/lang/AbstractStringBuilder", "append", "(Ljava/lang/String;)Ljava/lang/AbstractStringBuilder;"⟩ : MethodName) = true := by first | exact plainFor_of_name (by first | (simp [plainName, overriddenIn]; done) | decide +kernel) | decide +kernel
set_option maxRecDepth 65536 in
set_option maxHeartbeats 4000000 in
theorem ct_aap (G : Own.Gx) (hw : ∀ d ∈ tables_1, d.before G.a0 G.Z = true) (hC : Own.CSt G) {As : List Own.Ent} {Li : List Own.LitE} (o b : Addr) (xs : List Int32) (cap : Nat) (hxc : xs.length ≤ cap) (hcap : cap ≤ 4000) (s : Addr) (ys : List Int32) (hs : Own.StrF As s (ys.map Value.int)) (N : Nat) (hl : xs.length + ys.length ≤ 4000) (hN : Own.grow cap (xs.length + ys.length) ≤ N) (hN4 : N ≤ 4000) :
    Own.Ct G [] (⟨"java/lang/AbstractStringBuilder", "append", "(Ljava/lang/String;)Ljava/lang/AbstractStringBuilder;"⟩ : MethodName) jdk_68_method_22_code 3 (some (.object "java/lang/AbstractStringBuilder")) ({ frames := 4, cells := 1, slots := N, locals := 62 } : Room) [.ref o, .ref s] ((o, true, Own.obj "java/lang/StringBuilder" F_java_lang_StringBuilder [.ref b, .int 0, .int xs.length.toInt32]) :: (b, true, Own.arr .byte (Own.pad xs cap)) :: As) Li (fun v A L => ∃ b2 A0, v = some (.ref o) ∧ A = ((o, true, Own.obj "java/lang/StringBuilder" F_java_lang_StringBuilder [.ref b2, .int 0, .int (xs ++ ys).length.toInt32]) :: (b2, true, Own.arr .byte (Own.pad (xs ++ ys) (Own.grow cap (xs.length + ys.length)))) :: A0) ∧ Own.Sub As A0 ∧ Li = L) := by
  refine Own.Ct.intro pn_39640229 (Ls := [.val (.ref o), .val (.ref s), .unset]) rfl rfl ?_
  intro K
  refine Own.W.aloadN (pc := 0) d16_0 rfl rfl ?_
  refine Own.W.nonnullY (pc := 1) 9 d16_1 (by decide) (by decide) ?_
  refine Own.W.aloadN (pc := 9) d16_9 rfl rfl ?_
  refine Own.W.callV (pc := 10) (ct_slen G hw hC s _ ys.length.toInt32 (hs.sub (Own.Sub.cons (Own.Sub.cons (Own.Sub.refl _)))).str (by simp)) d16_10 (C := "java/lang/String") (hs.sub (Own.Sub.cons (Own.Sub.cons (Own.Sub.refl _)))).is (hw _ (List.mem_of_getElem? (i := 127) rfl)) (hw _ (List.mem_of_getElem? (i := 128) rfl)) (Own.nf_sel (hw _ (List.mem_of_getElem? (i := 130) rfl))) (hw _ (List.mem_of_getElem? (i := 130) rfl)) (hw _ (List.mem_of_getElem? (i := 129) rfl)) (hw _ (List.mem_of_getElem? (i := 3) rfl)) (hw _ (List.mem_of_getElem? (i := 131) rfl)) (by decide) pd_93421983 rfl rfl (Nat.le_of_ble_eq_true rfl) (Nat.le_of_ble_eq_true rfl) (by first | exact Nat.le_of_ble_eq_true rfl | (simp; done) | (simp; omega)) (by first | exact Nat.le_of_ble_eq_true rfl | (simp; done) | (simp; omega)) ?_
  rintro _ _ _ ⟨rfl, rfl, rfl⟩
  refine Own.W.istoreN (pc := 13) (Ls' := [_, _, _]) d16_13 rfl rfl ?_
  refine Own.W.aloadN (pc := 14) d16_14 rfl rfl ?_
  refine Own.W.aloadN (pc := 15) d16_15 rfl rfl ?_
  refine Own.W.getF (pc := 16) (host := "") (Or.inl (hw _ (List.mem_of_getElem? (i := 137) rfl))) (Via.refl (O := "java/lang/AbstractStringBuilder")) d16_16 (by repeat (first | exact List.Mem.head _ | assumption | exact List.mem_append_right _ (List.Mem.head _) | apply List.Mem.tail)) (by repeat (first | exact Own.FAt.head | apply Own.FAt.tail)) ?_
  refine Own.W.iloadN (pc := 19) d16_19 rfl ?_
  refine Own.W.iadd (pc := 20) d16_20 (z := (xs.length + ys.length).toInt32) (Own.n_add _ _) ?_
  refine Own.W.callV (pc := 21) (ct_eci G hw o b xs cap hxc hcap (xs.length + ys.length) N hl hN hN4) d16_21 (C := "java/lang/StringBuilder") (Own.Is.mem (List.Mem.head _)) (hw _ (List.mem_of_getElem? (i := 139) rfl)) (Own.decl_of (hw _ (List.mem_of_getElem? (i := 140) rfl)) (hw _ (List.mem_of_getElem? (i := 143) rfl))) (Own.nf_sel (hw _ (List.mem_of_getElem? (i := 142) rfl))) (hw _ (List.mem_of_getElem? (i := 142) rfl)) (hw _ (List.mem_of_getElem? (i := 140) rfl)) (hw _ (List.mem_of_getElem? (i := 109) rfl)) (hw _ (List.mem_of_getElem? (i := 143) rfl)) (by decide) pd_87992021 rfl rfl (Nat.le_of_ble_eq_true rfl) (Nat.le_of_ble_eq_true rfl) (by first | exact Nat.le_of_ble_eq_true rfl | (simp; done) | (simp; omega)) (by first | exact Nat.le_of_ble_eq_true rfl | (simp; done) | (simp; omega)) ?_
  rintro _ _ _ ⟨b2, A0, rfl, rfl, hsub, rfl⟩
  have hge : xs.length + ys.length ≤ (Own.grow cap (xs.length + ys.length)) := Own.grow_ge
  refine Own.W.aloadN (pc := 24) d16_24 rfl rfl ?_
  refine Own.W.aloadN (pc := 25) d16_25 rfl rfl ?_
  refine Own.W.getF (pc := 26) (host := "") (Or.inl (hw _ (List.mem_of_getElem? (i := 137) rfl))) (Via.refl (O := "java/lang/AbstractStringBuilder")) d16_26 (by repeat (first | exact List.Mem.head _ | assumption | exact List.mem_append_right _ (List.Mem.head _) | apply List.Mem.tail)) (by repeat (first | exact Own.FAt.head | apply Own.FAt.tail)) ?_
  refine Own.W.aloadN (pc := 29) d16_29 rfl rfl ?_
  refine Own.W.callV (pc := 30) (ct_psa G hw hC o b2 xs (Own.grow cap (xs.length + ys.length)) (by omega) (by omega) s ys (hs.sub hsub) hge) d16_30 (C := "java/lang/StringBuilder") (Own.Is.mem (List.Mem.head _)) (hw _ (List.mem_of_getElem? (i := 144) rfl)) (Own.decl_of (hw _ (List.mem_of_getElem? (i := 145) rfl)) (hw _ (List.mem_of_getElem? (i := 148) rfl))) (Own.nf_sel (hw _ (List.mem_of_getElem? (i := 147) rfl))) (hw _ (List.mem_of_getElem? (i := 147) rfl)) (hw _ (List.mem_of_getElem? (i := 145) rfl)) (hw _ (List.mem_of_getElem? (i := 109) rfl)) (hw _ (List.mem_of_getElem? (i := 148) rfl)) (by decide) pd_62292757 rfl rfl (Nat.le_of_ble_eq_true rfl) (Nat.le_of_ble_eq_true rfl) (by first | exact Nat.le_of_ble_eq_true rfl | (simp; done) | (simp; omega)) (by first | exact Nat.le_of_ble_eq_true rfl | (simp; done) | (simp; omega)) ?_
  rintro _ _ _ ⟨rfl, rfl, rfl⟩
  refine Own.W.aloadN (pc := 33) d16_33 rfl rfl ?_
  refine Own.W.dup (pc := 34) d16_34 rfl ?_
  refine Own.W.getF (pc := 35) (host := "") (Or.inl (hw _ (List.mem_of_getElem? (i := 137) rfl))) (Via.refl (O := "java/lang/AbstractStringBuilder")) d16_35 (by repeat (first | exact List.Mem.head _ | assumption | exact List.mem_append_right _ (List.Mem.head _) | apply List.Mem.tail)) (by repeat (first | exact Own.FAt.head | apply Own.FAt.tail)) ?_
  refine Own.W.iloadN (pc := 38) d16_38 rfl ?_
  refine Own.W.iadd (pc := 39) d16_39 (z := (xs ++ ys).length.toInt32) (by rw [Own.n_add, List.length_append]) ?_
  refine Own.W.putF (pc := 40) (host := "") (Or.inl (hw _ (List.mem_of_getElem? (i := 137) rfl))) (Via.refl (O := "java/lang/AbstractStringBuilder")) d16_40 (Or.inl (hw _ (List.mem_of_getElem? (i := 138) rfl))) (hw _ (List.mem_of_getElem? (i := 100) rfl)) (ty := .int) (by decide) rfl rfl (by repeat (first | exact Own.Upd.head | exact Own.Upd.mid | apply Own.Upd.tail)) (by repeat (first | exact Own.FUp.head | apply Own.FUp.tail)) ?_
  refine Own.W.aloadN (pc := 43) d16_43 rfl rfl ?_
  refine Own.W.aret (pc := 44) d16_44 rfl rfl rfl ?_ (by first | exact Nat.le_of_ble_eq_true rfl | (simp; done) | (simp; omega)) (by first | exact Nat.le_of_ble_eq_true rfl | (simp; done) | (simp; omega))
  exact ⟨b2, A0, rfl, rfl, hsub, rfl⟩
theorem d15_0 : decode jdk_67_method_7_code 0 = .ok (.aload_n 0, 1) := by decide +kernel
theorem d15_1 : decode jdk_67_method_7_code 1 = .ok (.aload_n 1, 1) := by decide +kernel
theorem d15_2 : decode jdk_67_method_7_code 2 = .ok (.invokespecial 29, 3) := by decide +kernel
theorem pd_29712177 : parseMethodDescriptor "(Ljava/lang/String;)Ljava/lang/AbstractStringBuilder;" = some ⟨[(.object "java/lang/String")], some (.object "java/lang/AbstractStringBuilder")⟩ := by decide +kernel
theorem d15_5 : decode jdk_67_method_7_code 5 = .ok (.pop, 1) := by decide +kernel
theorem d15_6 : decode jdk_67_method_7_code 6 = .ok (.aload_n 0, 1) := by decide +kernel
theorem d15_7 : decode jdk_67_method_7_code 7 = .ok (.areturn, 1) := by decide +kernel
theorem pn_12648445 : plainFor (⟨"java/lang/StringBuilder", "append", "(Ljava/lang/String;)Ljava/lang/StringBuilder;"⟩ : MethodName) = true := by first | exact plainFor_of_name (by first | (simp [plainName, overriddenIn]; done) | decide +kernel) | decide +kernel
set_option maxRecDepth 65536 in
set_option maxHeartbeats 4000000 in
theorem ct_app (G : Own.Gx) (hw : ∀ d ∈ tables_1, d.before G.a0 G.Z = true) (hC : Own.CSt G) {As : List Own.Ent} {Li : List Own.LitE} (o b : Addr) (xs : List Int32) (cap : Nat) (hxc : xs.length ≤ cap) (hcap : cap ≤ 4000) (s : Addr) (ys : List Int32) (hs : Own.StrF As s (ys.map Value.int)) (N : Nat) (hl : xs.length + ys.length ≤ 4000) (hN : Own.grow cap (xs.length + ys.length) ≤ N) (hN4 : N ≤ 4000) :
    Own.Ct G [] (⟨"java/lang/StringBuilder", "append", "(Ljava/lang/String;)Ljava/lang/StringBuilder;"⟩ : MethodName) jdk_67_method_7_code 2 (some (.object "java/lang/StringBuilder")) ({ frames := 5, cells := 1, slots := N, locals := 76 } : Room) [.ref o, .ref s] ((o, true, Own.obj "java/lang/StringBuilder" F_java_lang_StringBuilder [.ref b, .int 0, .int xs.length.toInt32]) :: (b, true, Own.arr .byte (Own.pad xs cap)) :: As) Li (fun v A L => ∃ b2 A0, v = some (.ref o) ∧ A = ((o, true, Own.obj "java/lang/StringBuilder" F_java_lang_StringBuilder [.ref b2, .int 0, .int (xs ++ ys).length.toInt32]) :: (b2, true, Own.arr .byte (Own.pad (xs ++ ys) (Own.grow cap (xs.length + ys.length)))) :: A0) ∧ Own.Sub As A0 ∧ Li = L) := by
  refine Own.Ct.intro pn_12648445 (Ls := [.val (.ref o), .val (.ref s)]) rfl rfl ?_
  intro K
  refine Own.W.aloadN (pc := 0) d15_0 rfl rfl ?_
  refine Own.W.aloadN (pc := 1) d15_1 rfl rfl ?_
  refine Own.W.callX (pc := 2) (ct_aap G hw hC o b xs cap hxc hcap s ys hs N hl hN hN4) d15_2 (C := "java/lang/StringBuilder") (Own.Is.mem (List.Mem.head _)) (hw _ (List.mem_of_getElem? (i := 122) rfl)) (Own.same_of (hw _ (List.mem_of_getElem? (i := 123) rfl)) (hw _ (List.mem_of_getElem? (i := 142) rfl)) rfl (by decide)) (hw _ (List.mem_of_getElem? (i := 123) rfl)) (hw _ (List.mem_of_getElem? (i := 124) rfl)) (by decide) (hw _ (List.mem_of_getElem? (i := 109) rfl)) (hw _ (List.mem_of_getElem? (i := 126) rfl)) pd_29712177 rfl rfl (Nat.le_of_ble_eq_true rfl) (Nat.le_of_ble_eq_true rfl) (by first | exact Nat.le_of_ble_eq_true rfl | (simp; done) | (simp; omega)) (by first | exact Nat.le_of_ble_eq_true rfl | (simp; done) | (simp; omega)) ?_
  rintro _ _ _ ⟨b2, A0, rfl, rfl, hsub, rfl⟩
  refine Own.W.pop (pc := 5) d15_5 rfl ?_
  refine Own.W.aloadN (pc := 6) d15_6 rfl rfl ?_
  refine Own.W.aret (pc := 7) d15_7 rfl rfl rfl ?_ (by first | exact Nat.le_of_ble_eq_true rfl | (simp; done) | (simp; omega)) (by first | exact Nat.le_of_ble_eq_true rfl | (simp; done) | (simp; omega))
  exact ⟨b2, A0, rfl, rfl, hsub, rfl⟩
theorem d31_0 : decode jdk_68_method_64_code 0 = .ok (.aload_n 0, 1) := by decide +kernel
theorem d31_1 : decode jdk_68_method_64_code 1 = .ok (.getfield 15, 3) := by decide +kernel
theorem d31_4 : decode jdk_68_method_64_code 4 = .ok (.areturn, 1) := by decide +kernel
theorem pn_61978220 : plainFor (⟨"java/lang/AbstractStringBuilder", "getValue", "()[B"⟩ : MethodName) = true := by first | exact plainFor_of_name (by first | (simp [plainName, overriddenIn]; done) | decide +kernel) | decide +kernel
set_option maxRecDepth 65536 in
set_option maxHeartbeats 4000000 in
theorem ct_sgv (G : Own.Gx) (hw : ∀ d ∈ tables_1, d.before G.a0 G.Z = true) {As : List Own.Ent} {Li : List Own.LitE} (o b : Addr) (n : Int32) {w : Bool} (hm : (o, w, Own.obj "java/lang/StringBuilder" F_java_lang_StringBuilder [.ref b, .int 0, .int n]) ∈ As) :
    Own.Ct G [] (⟨"java/lang/AbstractStringBuilder", "getValue", "()[B"⟩ : MethodName) jdk_68_method_64_code 1 (some (.array .byte)) ({ frames := 0, cells := 0, slots := 0, locals := 0 } : Room) [.ref o] As Li (fun v A L => v = some (.ref b) ∧ As = A ∧ Li = L) := by
  refine Own.Ct.intro pn_61978220 (Ls := [.val (.ref o)]) rfl rfl ?_
  intro K
  refine Own.W.aloadN (pc := 0) d31_0 rfl rfl ?_
  refine Own.W.getF (pc := 1) (host := "") (Or.inl (hw _ (List.mem_of_getElem? (i := 113) rfl))) (Via.refl (O := "java/lang/AbstractStringBuilder")) d31_1 (by repeat (first | exact List.Mem.head _ | assumption | exact List.mem_append_right _ (List.Mem.head _) | apply List.Mem.tail)) (by repeat (first | exact Own.FAt.head | apply Own.FAt.tail)) ?_
  refine Own.W.aret (pc := 4) d31_4 rfl rfl rfl ?_ (Nat.le_of_ble_eq_true rfl) (Nat.le_of_ble_eq_true rfl)
  exact ⟨rfl, rfl, rfl⟩
theorem d33_0 : decode jdk_68_method_6_code 0 = .ok (.aload_n 0, 1) := by decide +kernel
theorem d33_1 : decode jdk_68_method_6_code 1 = .ok (.getfield 79, 3) := by decide +kernel
theorem d33_4 : decode jdk_68_method_6_code 4 = .ok (.ireturn, 1) := by decide +kernel
theorem pn_72432637 : plainFor (⟨"java/lang/AbstractStringBuilder", "length", "()I"⟩ : MethodName) = true := by first | exact plainFor_of_name (by first | (simp [plainName, overriddenIn]; done) | decide +kernel) | decide +kernel
set_option maxRecDepth 65536 in
set_option maxHeartbeats 4000000 in
theorem ct_sl0 (G : Own.Gx) (hw : ∀ d ∈ tables_1, d.before G.a0 G.Z = true) {As : List Own.Ent} {Li : List Own.LitE} (o b : Addr) (n : Int32) {w : Bool} (hm : (o, w, Own.obj "java/lang/StringBuilder" F_java_lang_StringBuilder [.ref b, .int 0, .int n]) ∈ As) :
    Own.Ct G [] (⟨"java/lang/AbstractStringBuilder", "length", "()I"⟩ : MethodName) jdk_68_method_6_code 1 (some .int) ({ frames := 0, cells := 0, slots := 0, locals := 0 } : Room) [.ref o] As Li (fun v A L => v = some (.int n) ∧ As = A ∧ Li = L) := by
  refine Own.Ct.intro pn_72432637 (Ls := [.val (.ref o)]) rfl rfl ?_
  intro K
  refine Own.W.aloadN (pc := 0) d33_0 rfl rfl ?_
  refine Own.W.getF (pc := 1) (host := "") (Or.inl (hw _ (List.mem_of_getElem? (i := 137) rfl))) (Via.refl (O := "java/lang/AbstractStringBuilder")) d33_1 (by repeat (first | exact List.Mem.head _ | assumption | exact List.mem_append_right _ (List.Mem.head _) | apply List.Mem.tail)) (by repeat (first | exact Own.FAt.head | apply Own.FAt.tail)) ?_
  refine Own.W.iret (pc := 4) d33_4 rfl (by simp) rfl ?_ (Nat.le_of_ble_eq_true rfl) (Nat.le_of_ble_eq_true rfl)
  exact ⟨rfl, rfl, rfl⟩
theorem d32_0 : decode jdk_67_method_93_code 0 = .ok (.aload_n 0, 1) := by decide +kernel
theorem d32_1 : decode jdk_67_method_93_code 1 = .ok (.invokespecial 343, 3) := by decide +kernel
theorem d32_4 : decode jdk_67_method_93_code 4 = .ok (.ireturn, 1) := by decide +kernel
theorem pn_47719209 : plainFor (⟨"java/lang/StringBuilder", "length", "()I"⟩ : MethodName) = true := by first | exact plainFor_of_name (by first | (simp [plainName, overriddenIn]; done) | decide +kernel) | decide +kernel
set_option maxRecDepth 65536 in
set_option maxHeartbeats 4000000 in
theorem ct_sl1 (G : Own.Gx) (hw : ∀ d ∈ tables_1, d.before G.a0 G.Z = true) {As : List Own.Ent} {Li : List Own.LitE} (o b : Addr) (n : Int32) {w : Bool} (hm : (o, w, Own.obj "java/lang/StringBuilder" F_java_lang_StringBuilder [.ref b, .int 0, .int n]) ∈ As) :
    Own.Ct G [] (⟨"java/lang/StringBuilder", "length", "()I"⟩ : MethodName) jdk_67_method_93_code 1 (some .int) ({ frames := 1, cells := 0, slots := 0, locals := 12 } : Room) [.ref o] As Li (fun v A L => v = some (.int n) ∧ As = A ∧ Li = L) := by
  refine Own.Ct.intro pn_47719209 (Ls := [.val (.ref o)]) rfl rfl ?_
  intro K
  refine Own.W.aloadN (pc := 0) d32_0 rfl rfl ?_
  refine Own.W.callX (pc := 1) (ct_sl0 G hw o b n hm) d32_1 (C := "java/lang/StringBuilder") (Own.Is.mem hm) (hw _ (List.mem_of_getElem? (i := 213) rfl)) (Own.same_of (hw _ (List.mem_of_getElem? (i := 209) rfl)) (hw _ (List.mem_of_getElem? (i := 142) rfl)) rfl (by decide)) (hw _ (List.mem_of_getElem? (i := 209) rfl)) (hw _ (List.mem_of_getElem? (i := 124) rfl)) (by decide) (hw _ (List.mem_of_getElem? (i := 109) rfl)) (hw _ (List.mem_of_getElem? (i := 214) rfl)) pd_93421983 rfl rfl (Nat.le_of_ble_eq_true rfl) (Nat.le_of_ble_eq_true rfl) (Nat.le_of_ble_eq_true rfl) (Nat.le_of_ble_eq_true rfl) ?_
  rintro _ _ _ ⟨rfl, rfl, rfl⟩
  refine Own.W.iret (pc := 4) d32_4 rfl (by simp) rfl ?_ (Nat.le_of_ble_eq_true rfl) (Nat.le_of_ble_eq_true rfl)
  exact ⟨rfl, rfl, rfl⟩
theorem d26_0 : decode jdk_68_method_68_code 0 = .ok (.getstatic 18, 3) := by decide +kernel
theorem d26_3 : decode jdk_68_method_68_code 3 = .ok (.ifCond .eq 14, 3) := by decide +kernel
theorem d26_6 : decode jdk_68_method_68_code 6 = .ok (.aload_n 0, 1) := by decide +kernel
theorem d26_7 : decode jdk_68_method_68_code 7 = .ok (.getfield 22, 3) := by decide +kernel
theorem d26_10 : decode jdk_68_method_68_code 10 = .ok (.ifCond .ne 7, 3) := by decide +kernel
theorem d26_13 : decode jdk_68_method_68_code 13 = .ok (.iconst 1, 1) := by decide +kernel
theorem d26_14 : decode jdk_68_method_68_code 14 = .ok (.goto 4, 3) := by decide +kernel
theorem d26_18 : decode jdk_68_method_68_code 18 = .ok (.ireturn, 1) := by decide +kernel
theorem pn_26062833 : plainFor (⟨"java/lang/AbstractStringBuilder", "isLatin1", "()Z"⟩ : MethodName) = true := by first | exact plainFor_of_name (by first | (simp [plainName, overriddenIn]; done) | decide +kernel) | decide +kernel
set_option maxRecDepth 65536 in
set_option maxHeartbeats 4000000 in
theorem ct_sis (G : Own.Gx) (hw : ∀ d ∈ tables_1, d.before G.a0 G.Z = true) (hC : Own.CSt G) {As : List Own.Ent} {Li : List Own.LitE} (o b : Addr) (n : Int32) {w : Bool} (hm : (o, w, Own.obj "java/lang/StringBuilder" F_java_lang_StringBuilder [.ref b, .int 0, .int n]) ∈ As) :
    Own.Ct G [] (⟨"java/lang/AbstractStringBuilder", "isLatin1", "()Z"⟩ : MethodName) jdk_68_method_68_code 1 (some .boolean) ({ frames := 0, cells := 0, slots := 0, locals := 0 } : Room) [.ref o] As Li (fun v A L => v = some (.int 1) ∧ As = A ∧ Li = L) := by
  refine Own.Ct.intro pn_26062833 (Ls := [.val (.ref o)]) rfl rfl ?_
  intro K
  obtain ⟨cz, hC1, hC2⟩ := hC
  refine Own.W.getS (pc := 0) (host := "") (Or.inl (hw _ (List.mem_of_getElem? (i := 112) rfl))) (Via.refl (O := "java/lang/String")) d26_0 hC1 ?_
  refine Own.W.if_eq (pc := 3) 17 d26_3 (by decide) (by decide) (fun h3 => absurd h3 hC2) ?_
  intro h3
  refine Own.W.aloadN (pc := 6) d26_6 rfl rfl ?_
  refine Own.W.getF (pc := 7) (host := "") (Or.inl (hw _ (List.mem_of_getElem? (i := 115) rfl))) (Via.refl (O := "java/lang/AbstractStringBuilder")) d26_7 (by repeat (first | exact List.Mem.head _ | assumption | exact List.mem_append_right _ (List.Mem.head _) | apply List.Mem.tail)) (by repeat (first | exact Own.FAt.head | apply Own.FAt.tail)) ?_
  refine Own.W.if_ne (pc := 10) 17 d26_10 (by decide) (by decide) (fun h10 => absurd h10 (fun q => q rfl)) ?_
  intro h10
  refine Own.W.iconst (pc := 13) (z := (1 : Int32)) d26_13 (by decide) ?_
  refine Own.W.goto (pc := 14) 18 d26_14 (by decide) (by decide) ?_
  refine Own.W.iret (pc := 18) d26_18 rfl (by simp) (by first | rfl | decide) ?_ (Nat.le_of_ble_eq_true rfl) (Nat.le_of_ble_eq_true rfl)
  exact ⟨rfl, rfl, rfl⟩
theorem d30_0 : decode jdk_42_method_150_code 0 = .ok (.aload_n 0, 1) := by decide +kernel
theorem d30_1 : decode jdk_42_method_150_code 1 = .ok (.invokespecial 1, 3) := by decide +kernel
theorem d30_4 : decode jdk_42_method_150_code 4 = .ok (.aload_n 1, 1) := by decide +kernel
theorem d30_5 : decode jdk_42_method_150_code 5 = .ok (.invokevirtual 552, 3) := by decide +kernel
theorem pd_87958803 : parseMethodDescriptor "()[B" = some ⟨[], some (.array .byte)⟩ := by decide +kernel
theorem d30_8 : decode jdk_42_method_150_code 8 = .ok (.astore_n 3, 1) := by decide +kernel
theorem d30_9 : decode jdk_42_method_150_code 9 = .ok (.aload_n 1, 1) := by decide +kernel
theorem d30_10 : decode jdk_42_method_150_code 10 = .ok (.invokevirtual 549, 3) := by decide +kernel
theorem d30_13 : decode jdk_42_method_150_code 13 = .ok (.istore 4, 2) := by decide +kernel
theorem d30_15 : decode jdk_42_method_150_code 15 = .ok (.aload_n 1, 1) := by decide +kernel
theorem d30_16 : decode jdk_42_method_150_code 16 = .ok (.invokevirtual 1047, 3) := by decide +kernel
theorem pd_93422000 : parseMethodDescriptor "()Z" = some ⟨[], some .boolean⟩ := by decide +kernel
theorem d30_19 : decode jdk_42_method_150_code 19 = .ok (.ifCond .eq 22, 3) := by decide +kernel
theorem d30_22 : decode jdk_42_method_150_code 22 = .ok (.aload_n 0, 1) := by decide +kernel
theorem d30_23 : decode jdk_42_method_150_code 23 = .ok (.iconst 0, 1) := by decide +kernel
theorem d30_24 : decode jdk_42_method_150_code 24 = .ok (.putfield 15, 3) := by decide +kernel
theorem d30_27 : decode jdk_42_method_150_code 27 = .ok (.aload_n 0, 1) := by decide +kernel
theorem d30_28 : decode jdk_42_method_150_code 28 = .ok (.aload_n 3, 1) := by decide +kernel
theorem d30_29 : decode jdk_42_method_150_code 29 = .ok (.iconst 0, 1) := by decide +kernel
theorem d30_30 : decode jdk_42_method_150_code 30 = .ok (.iload 4, 2) := by decide +kernel
theorem d30_32 : decode jdk_42_method_150_code 32 = .ok (.invokestatic 54, 3) := by decide +kernel
theorem d30_35 : decode jdk_42_method_150_code 35 = .ok (.putfield 9, 3) := by decide +kernel
theorem d30_38 : decode jdk_42_method_150_code 38 = .ok (.goto 59, 3) := by decide +kernel
theorem d30_97 : decode jdk_42_method_150_code 97 = .ok (.return_, 1) := by decide +kernel
theorem pn_95129745 : plainFor (⟨"java/lang/String", "<init>", "(Ljava/lang/AbstractStringBuilder;Ljava/lang/Void;)V"⟩ : MethodName) = true := by first | exact plainFor_of_name (by first | (simp [plainName, overriddenIn]; done) | decide +kernel) | decide +kernel
set_option maxRecDepth 65536 in
set_option maxHeartbeats 4000000 in
theorem ct_ssv (G : Own.Gx) (hw : ∀ d ∈ tables_1, d.before G.a0 G.Z = true) (hC : Own.CSt G) {As : List Own.Ent} {Li : List Own.LitE} (s : Addr) (o b : Addr) (xs : List Int32) (cap : Nat) (hxc : xs.length ≤ cap) (hcap : cap ≤ 4000) (hne : xs.length ≤ cap) (N : Nat) (hN : xs.length ≤ N) (hN4 : N ≤ 4000) :
    Own.Ct G [] (⟨"java/lang/String", "<init>", "(Ljava/lang/AbstractStringBuilder;Ljava/lang/Void;)V"⟩ : MethodName) jdk_42_method_150_code 5 none ({ frames := 3, cells := 1, slots := N, locals := 49 } : Room) [.ref s, .ref o, .null] ((s, true, Own.obj "java/lang/String" F_java_lang_String [.int 0, .null]) :: (o, true, Own.obj "java/lang/StringBuilder" F_java_lang_StringBuilder [.ref b, .int 0, .int xs.length.toInt32]) :: (b, true, Own.arr .byte (Own.pad xs cap)) :: As) Li (fun v A L => ∃ t, v = none ∧ A = (t, true, Own.arr .byte (xs.map Value.int)) :: (s, true, Own.obj "java/lang/String" F_java_lang_String [.int 0, .ref t]) :: (o, true, Own.obj "java/lang/StringBuilder" F_java_lang_StringBuilder [.ref b, .int 0, .int xs.length.toInt32]) :: (b, true, Own.arr .byte (Own.pad xs cap)) :: As ∧ Li = L) := by
  refine Own.Ct.intro pn_95129745 (Ls := [.val (.ref s), .val (.ref o), .val (.null), .unset, .unset]) rfl rfl ?_
  intro K
  refine Own.W.aloadN (pc := 0) d30_0 rfl rfl ?_
  refine Own.W.callO (pc := 1) d30_1 (hw _ (List.mem_of_getElem? (i := 11) rfl)) (hw _ (List.mem_of_getElem? (i := 12) rfl)) (hw _ (List.mem_of_getElem? (i := 13) rfl)) (Nat.le_of_ble_eq_true rfl) (Nat.le_of_ble_eq_true rfl) ?_
  refine Own.W.aloadN (pc := 4) d30_4 rfl rfl ?_
  refine Own.W.callV (pc := 5) (ct_sgv G hw o b _ (List.Mem.tail _ (List.Mem.head _))) d30_5 (C := "java/lang/StringBuilder") (Own.Is.mem (List.Mem.tail _ (List.Mem.head _))) (hw _ (List.mem_of_getElem? (i := 202) rfl)) (hw _ (List.mem_of_getElem? (i := 203) rfl)) (Own.nf_sel (hw _ (List.mem_of_getElem? (i := 205) rfl))) (hw _ (List.mem_of_getElem? (i := 205) rfl)) (hw _ (List.mem_of_getElem? (i := 204) rfl)) (hw _ (List.mem_of_getElem? (i := 109) rfl)) (hw _ (List.mem_of_getElem? (i := 206) rfl)) (by decide) pd_87958803 rfl rfl (Nat.le_of_ble_eq_true rfl) (Nat.le_of_ble_eq_true rfl) (by first | exact Nat.le_of_ble_eq_true rfl | (simp; done) | (simp; omega)) (by first | exact Nat.le_of_ble_eq_true rfl | (simp; done) | (simp; omega)) ?_
  rintro _ _ _ ⟨rfl, rfl, rfl⟩
  refine Own.W.astoreN (pc := 8) (Ls' := [_, _, _, _, _]) d30_8 rfl rfl rfl ?_
  refine Own.W.aloadN (pc := 9) d30_9 rfl rfl ?_
  refine Own.W.callV (pc := 10) (ct_sl1 G hw o b _ (List.Mem.tail _ (List.Mem.head _))) d30_10 (C := "java/lang/StringBuilder") (Own.Is.mem (List.Mem.tail _ (List.Mem.head _))) (hw _ (List.mem_of_getElem? (i := 207) rfl)) (hw _ (List.mem_of_getElem? (i := 208) rfl)) (Own.nf_cls (hw _ (List.mem_of_getElem? (i := 142) rfl)) rfl) (hw _ (List.mem_of_getElem? (i := 210) rfl)) (hw _ (List.mem_of_getElem? (i := 211) rfl)) (hw _ (List.mem_of_getElem? (i := 101) rfl)) (hw _ (List.mem_of_getElem? (i := 212) rfl)) (by decide) pd_93421983 rfl rfl (Nat.le_of_ble_eq_true rfl) (Nat.le_of_ble_eq_true rfl) (by first | exact Nat.le_of_ble_eq_true rfl | (simp; done) | (simp; omega)) (by first | exact Nat.le_of_ble_eq_true rfl | (simp; done) | (simp; omega)) ?_
  rintro _ _ _ ⟨rfl, rfl, rfl⟩
  refine Own.W.istore (pc := 13) (Ls' := [_, _, _, _, _]) d30_13 rfl rfl ?_
  refine Own.W.aloadN (pc := 15) d30_15 rfl rfl ?_
  refine Own.W.callV (pc := 16) (ct_sis G hw hC o b _ (List.Mem.tail _ (List.Mem.head _))) d30_16 (C := "java/lang/StringBuilder") (Own.Is.mem (List.Mem.tail _ (List.Mem.head _))) (hw _ (List.mem_of_getElem? (i := 215) rfl)) (hw _ (List.mem_of_getElem? (i := 181) rfl)) (Own.nf_sel (hw _ (List.mem_of_getElem? (i := 183) rfl))) (hw _ (List.mem_of_getElem? (i := 183) rfl)) (hw _ (List.mem_of_getElem? (i := 182) rfl)) (hw _ (List.mem_of_getElem? (i := 109) rfl)) (hw _ (List.mem_of_getElem? (i := 184) rfl)) (by decide) pd_93422000 rfl rfl (Nat.le_of_ble_eq_true rfl) (Nat.le_of_ble_eq_true rfl) (by first | exact Nat.le_of_ble_eq_true rfl | (simp; done) | (simp; omega)) (by first | exact Nat.le_of_ble_eq_true rfl | (simp; done) | (simp; omega)) ?_
  rintro _ _ _ ⟨rfl, rfl, rfl⟩
  refine Own.W.if_eq (pc := 19) 41 d30_19 (by decide) (by decide) (fun h19 => absurd h19 (by decide)) ?_
  intro h19
  refine Own.W.aloadN (pc := 22) d30_22 rfl rfl ?_
  refine Own.W.iconst (pc := 23) (z := (0 : Int32)) d30_23 (by decide) ?_
  refine Own.W.putN (pc := 24) (hw _ (List.mem_of_getElem? (i := 26) rfl)) (Via.refl (O := "java/lang/String")) d30_24 (Or.inr ⟨(hw _ (List.mem_of_getElem? (i := 27) rfl)), rfl, rfl⟩) (hw _ (List.mem_of_getElem? (i := 2) rfl)) (ty := .byte) (by decide) rfl (by first | rfl | decide) (by repeat (first | exact Own.Upd.head | exact Own.Upd.mid | apply Own.Upd.tail)) (by repeat (first | exact Own.FUp.head | apply Own.FUp.tail)) ?_
  refine Own.W.aloadN (pc := 27) d30_27 rfl rfl ?_
  refine Own.W.aloadN (pc := 28) d30_28 rfl rfl ?_
  refine Own.W.iconst (pc := 29) (z := (0 : Int32)) d30_29 (by decide) ?_
  refine Own.W.iload (pc := 30) d30_30 rfl ?_
  refine Own.W.callS (pc := 32) (ct_cor G hw b _ xs.length N (by rw [Own.pad_len hxc]; exact hne) (by rw [Own.pad_len hxc]; omega) hN hN4 (List.Mem.tail _ (List.Mem.tail _ (List.Mem.head _)))) d30_32 (hw _ (List.mem_of_getElem? (i := 216) rfl)) (hw _ (List.mem_of_getElem? (i := 217) rfl)) (hw _ (List.mem_of_getElem? (i := 218) rfl)) (hw _ (List.mem_of_getElem? (i := 219) rfl)) (by decide) pd_47730210 rfl rfl (Nat.le_of_ble_eq_true rfl) (Nat.le_of_ble_eq_true rfl) (by first | exact Nat.le_of_ble_eq_true rfl | (simp; done) | (simp; omega)) (by first | exact Nat.le_of_ble_eq_true rfl | (simp; done) | (simp; omega)) ?_
  rintro _ _ _ ⟨t, rfl, rfl, rfl⟩
  refine Own.W.putF (pc := 35) (host := "") (Or.inl (hw _ (List.mem_of_getElem? (i := 28) rfl))) (Via.refl (O := "java/lang/String")) d30_35 (Or.inr ⟨(hw _ (List.mem_of_getElem? (i := 29) rfl)), rfl, rfl⟩) (hw _ (List.mem_of_getElem? (i := 2) rfl)) (ty := (.array .byte)) (by decide) rfl rfl (by repeat (first | exact Own.Upd.head | exact Own.Upd.mid | apply Own.Upd.tail)) (by repeat (first | exact Own.FUp.head | apply Own.FUp.tail)) ?_
  refine Own.W.goto (pc := 38) 97 d30_38 (by decide) (by decide) ?_
  rw [Own.pad_take]
  refine Own.W.vret (pc := 97) d30_97 rfl  ?_ (by first | exact Nat.le_of_ble_eq_true rfl | (simp; done) | (simp; omega)) (by first | exact Nat.le_of_ble_eq_true rfl | (simp; done) | (simp; omega))
  exact ⟨t, rfl, rfl, rfl⟩
theorem d29_0 : decode jdk_42_method_53_code 0 = .ok (.aload_n 0, 1) := by decide +kernel
theorem d29_1 : decode jdk_42_method_53_code 1 = .ok (.aload_n 1, 1) := by decide +kernel
theorem d29_2 : decode jdk_42_method_53_code 2 = .ok (.aconst_null, 1) := by decide +kernel
theorem d29_3 : decode jdk_42_method_53_code 3 = .ok (.invokespecial 489, 3) := by decide +kernel
theorem pd_35917794 : parseMethodDescriptor "(Ljava/lang/AbstractStringBuilder;Ljava/lang/Void;)V" = some ⟨[(.object "java/lang/AbstractStringBuilder"), (.object "java/lang/Void")], none⟩ := by decide +kernel
theorem d29_6 : decode jdk_42_method_53_code 6 = .ok (.return_, 1) := by decide +kernel
theorem pn_59478978 : plainFor (⟨"java/lang/String", "<init>", "(Ljava/lang/StringBuilder;)V"⟩ : MethodName) = true := by first | exact plainFor_of_name (by first | (simp [plainName, overriddenIn]; done) | decide +kernel) | decide +kernel
set_option maxRecDepth 65536 in
set_option maxHeartbeats 4000000 in
theorem ct_ssb (G : Own.Gx) (hw : ∀ d ∈ tables_1, d.before G.a0 G.Z = true) (hC : Own.CSt G) {As : List Own.Ent} {Li : List Own.LitE} (s : Addr) (o b : Addr) (xs : List Int32) (cap : Nat) (hxc : xs.length ≤ cap) (hcap : cap ≤ 4000) (hne : xs.length ≤ cap) (N : Nat) (hN : xs.length ≤ N) (hN4 : N ≤ 4000) :
    Own.Ct G [] (⟨"java/lang/String", "<init>", "(Ljava/lang/StringBuilder;)V"⟩ : MethodName) jdk_42_method_53_code 2 none ({ frames := 4, cells := 1, slots := N, locals := 65 } : Room) [.ref s, .ref o] ((s, true, Own.obj "java/lang/String" F_java_lang_String [.int 0, .null]) :: (o, true, Own.obj "java/lang/StringBuilder" F_java_lang_StringBuilder [.ref b, .int 0, .int xs.length.toInt32]) :: (b, true, Own.arr .byte (Own.pad xs cap)) :: As) Li (fun v A L => ∃ t, v = none ∧ A = (t, true, Own.arr .byte (xs.map Value.int)) :: (s, true, Own.obj "java/lang/String" F_java_lang_String [.int 0, .ref t]) :: (o, true, Own.obj "java/lang/StringBuilder" F_java_lang_StringBuilder [.ref b, .int 0, .int xs.length.toInt32]) :: (b, true, Own.arr .byte (Own.pad xs cap)) :: As ∧ Li = L) := by
  refine Own.Ct.intro pn_59478978 (Ls := [.val (.ref s), .val (.ref o)]) rfl rfl ?_
  intro K
  refine Own.W.aloadN (pc := 0) d29_0 rfl rfl ?_
  refine Own.W.aloadN (pc := 1) d29_1 rfl rfl ?_
  refine Own.W.aconstNull (pc := 2) d29_2 ?_
  refine Own.W.callI (pc := 3) (ct_ssv G hw hC s o b xs cap hxc hcap hne N hN hN4) d29_3 rfl (hw _ (List.mem_of_getElem? (i := 199) rfl)) (hw _ (List.mem_of_getElem? (i := 200) rfl)) (hw _ (List.mem_of_getElem? (i := 3) rfl)) (hw _ (List.mem_of_getElem? (i := 201) rfl)) (by decide) pd_35917794 rfl rfl (Nat.le_of_ble_eq_true rfl) (Nat.le_of_ble_eq_true rfl) (by first | exact Nat.le_of_ble_eq_true rfl | (simp; done) | (simp; omega)) (by first | exact Nat.le_of_ble_eq_true rfl | (simp; done) | (simp; omega)) ?_
  rintro _ _ _ ⟨t, rfl, rfl, rfl⟩
  refine Own.W.vret (pc := 6) d29_6 rfl  ?_ (by first | exact Nat.le_of_ble_eq_true rfl | (simp; done) | (simp; omega)) (by first | exact Nat.le_of_ble_eq_true rfl | (simp; done) | (simp; omega))
  exact ⟨t, rfl, rfl, rfl⟩
theorem d28_0 : decode jdk_67_method_42_code 0 = .ok (.new 18, 3) := by decide +kernel
theorem d28_3 : decode jdk_67_method_42_code 3 = .ok (.dup, 1) := by decide +kernel
theorem d28_4 : decode jdk_67_method_42_code 4 = .ok (.aload_n 0, 1) := by decide +kernel
theorem d28_5 : decode jdk_67_method_42_code 5 = .ok (.invokespecial 137, 3) := by decide +kernel
theorem pd_91813651 : parseMethodDescriptor "(Ljava/lang/StringBuilder;)V" = some ⟨[(.object "java/lang/StringBuilder")], none⟩ := by decide +kernel
theorem d28_8 : decode jdk_67_method_42_code 8 = .ok (.areturn, 1) := by decide +kernel
theorem pn_320280 : plainFor (⟨"java/lang/StringBuilder", "toString", "()Ljava/lang/String;"⟩ : MethodName) = true := by first | exact plainFor_of_name (by first | (simp [plainName, overriddenIn]; done) | decide +kernel) | decide +kernel
set_option maxRecDepth 65536 in
set_option maxHeartbeats 4000000 in
theorem ct_tos (G : Own.Gx) (hw : ∀ d ∈ tables_1, d.before G.a0 G.Z = true) (hC : Own.CSt G) {As : List Own.Ent} {Li : List Own.LitE} (o b : Addr) (xs : List Int32) (cap : Nat) (hxc : xs.length ≤ cap) (hcap : cap ≤ 4000) (hne : xs.length ≤ cap) (N : Nat) (hN : xs.length ≤ N) (hN4 : N ≤ 4000) :
    Own.Ct G [] (⟨"java/lang/StringBuilder", "toString", "()Ljava/lang/String;"⟩ : MethodName) jdk_67_method_42_code 1 (some (.object "java/lang/String")) ({ frames := 5, cells := 2, slots := (N + 4), locals := 79 } : Room) [.ref o] ((o, true, Own.obj "java/lang/StringBuilder" F_java_lang_StringBuilder [.ref b, .int 0, .int xs.length.toInt32]) :: (b, true, Own.arr .byte (Own.pad xs cap)) :: As) Li (fun v A L => ∃ s, v = some (.ref s) ∧ Own.StrF A s (xs.map Value.int) ∧ Own.Sub As A ∧ Li = L) := by
  refine Own.Ct.intro pn_320280 (Ls := [.val (.ref o)]) rfl rfl ?_
  intro K
  refine Own.W.new (pc := 0) (hw _ (List.mem_of_getElem? (i := 195) rfl)) (hw _ (List.mem_of_getElem? (i := 2) rfl)) (hw _ (List.mem_of_getElem? (i := 3) rfl)) d28_0 (LF_java_lang_String G hw) (vs := [.int 0, .null]) (by decide) (by first | exact Nat.le_of_ble_eq_true rfl | (simp; done) | (simp; omega)) (by first | exact Nat.le_of_ble_eq_true rfl | (simp; done) | (simp; omega)) ?_
  intro o0
  refine Own.W.dup (pc := 3) d28_3 rfl ?_
  refine Own.W.aloadN (pc := 4) d28_4 rfl rfl ?_
  refine Own.W.callI (pc := 5) (ct_ssb G hw hC o0 o b xs cap hxc hcap hne N hN hN4) d28_5 rfl (hw _ (List.mem_of_getElem? (i := 196) rfl)) (hw _ (List.mem_of_getElem? (i := 197) rfl)) (hw _ (List.mem_of_getElem? (i := 3) rfl)) (hw _ (List.mem_of_getElem? (i := 198) rfl)) (by decide) pd_91813651 rfl rfl (Nat.le_of_ble_eq_true rfl) (Nat.le_of_ble_eq_true rfl) (by first | exact Nat.le_of_ble_eq_true rfl | (simp; done) | (simp; omega)) (by first | exact Nat.le_of_ble_eq_true rfl | (simp; done) | (simp; omega)) ?_
  rintro _ _ _ ⟨t, rfl, rfl, rfl⟩
  refine Own.W.frz Own.Frz.head ?_
  refine Own.W.frz (Own.Frz.tail Own.Frz.head) ?_
  refine Own.W.aret (pc := 8) d28_8 rfl rfl rfl ?_ (by first | exact Nat.le_of_ble_eq_true rfl | (simp; done) | (simp; omega)) (by first | exact Nat.le_of_ble_eq_true rfl | (simp; done) | (simp; omega))
  exact ⟨_, rfl, ⟨t, _, _, List.Mem.tail _ (List.Mem.head _), (by repeat (first | exact Own.FAt.head | apply Own.FAt.tail)), (by repeat (first | exact Own.FAt.head | apply Own.FAt.tail)), List.Mem.head _⟩, Own.Sub.cons (Own.Sub.cons (Own.Sub.cons (Own.Sub.cons (Own.Sub.refl _)))), rfl⟩
abbrev ush (x k : Int32) : Int32 := (x.toUInt32 >>> (k &&& 31).toUInt32).toInt32
theorem own_ch {x : Int32} (h : x &&& 255 = x) : ¬ (255 : Int32) < x := by
  have q := c_mask x 255 8 (by decide) (by decide)
  rw [h] at q
  rw [Int32.lt_iff_toInt_lt, q]
  have h2 : (255 : Int32).toInt = 255 := rfl
  omega
theorem own_id (x : Int32) : (x &&& 255) &&& 255 = x &&& 255 := by
  have q := c_mask x 255 8 (by decide) (by decide)
  have r := c_mask (x &&& 255) 255 8 (by decide) (by decide)
  exact Int32.toInt_inj.mp (by omega)
theorem own_back {x : Int32} (h : x &&& 255 = x) : x.toInt8.toInt32 &&& 255 = x := by
  have q := c_mask x 255 8 (by decide) (by decide)
  have r := c_mask x.toInt8.toInt32 255 8 (by decide) (by decide)
  have b := (c_i2b x).1
  rw [h] at q
  exact Int32.toInt_inj.mp (by omega)
theorem own_nar {x : Int32} (h : x &&& 255 = x) : nar .char x = x := by rw [← h]; exact i2c_mask x
abbrev own_by (cs : List Int32) : List Int32 := cs.map fun z => z.toInt8.toInt32
theorem own_by_map (cs : List Int32) : cs.map Own.byt = (own_by cs).map Value.int := by simp [own_by, List.map_map, Function.comp_def]
theorem own_sl (As : List Own.Ent) (a b : Addr) (t : String) : Own.Sub As ((a, false, Own.obj "java/lang/String" Own.litF [.ref b, .int 0]) :: (b, false, Own.arr .byte ((Own.txb t).map Value.int)) :: As) := Own.Sub.cons (Own.Sub.cons (Own.Sub.refl _))
theorem own_ls {As : List Own.Ent} {x : Addr} {vs : List Value} (_ : Own.StrF As x vs) (a b : Addr) (t : String) : Own.StrF ((a, false, Own.obj "java/lang/String" Own.litF [.ref b, .int 0]) :: (b, false, Own.arr .byte ((Own.txb t).map Value.int)) :: As) a ((Own.txb t).map Value.int) := Own.StrF.lit (List.Mem.head _) (List.Mem.tail _ (List.Mem.head _))
theorem own_gb {cap need N : Nat} (h1 : cap ≤ N) (h2 : need ≤ cap ∨ (need ≤ N ∧ 2 * cap + 2 ≤ N)) : Own.grow cap need ≤ N := by unfold Own.grow; split <;> omega
theorem own_mk_ {s : State} (h : Jvm.D.tablesKnown s = true) : s.vm.MethodsKnown := fun m x hx => by
  unfold Vm.method? at hx
  cases hk : s.vm.classes[m.cls]? with
  | none => simp [hk] at hx
  | some k =>
    simp only [hk, Option.bind_eq_bind, Option.bind_some] at hx
    refine ⟨k, hk, fun cf hcf => ?_⟩
    have q := Array.all_eq_true'.mp h k (Array.mem_of_getElem? hk)
    simp only [hcf, beq_iff_eq] at q
    have hi := (Array.getElem?_eq_some_iff.mp hx).1
    rw [Array.getElem?_eq_getElem (by omega)]; rfl
theorem own_fk_ {s : State} (h : Jvm.D.framesKnown s = true) : s.vm.FramesKnown s.frames := fun y hy m' hm' => by
  have q := List.all_eq_true.mp h y hy
  have key : ∀ m, Jvm.D.methodKnown s.vm m = true → s.vm.knowsMethod m := fun m hm => by
    unfold Jvm.D.methodKnown at hm
    cases hk : s.vm.classes[m.cls]? with
    | none => simp [hk] at hm
    | some k =>
      refine ⟨k, hk, fun cf hcf => ?_⟩
      simpa [hk, hcf] using hm
  cases y <;> simp [frameMethod?] at hm' <;> subst hm' <;> exact key _ q
theorem own_st {l : Launch} (h : l.flags = flags0) : l.stackTraces = true := by
  rw [Launch.stackTraces, h]; decide +kernel
open Jvm.Free.SBG in
theorem own_sg_nothing : True := trivial
def own_sg (x : Int32) : Nat := if x < 0 then 1 else 0
/-- the digits' tables -/
def Digs (G : Own.Gx) : Prop := (∃ (d : Addr) (vs : List Value), Sta G.Z G.Z.heap "java/lang/Integer" "DigitOnes" "[B" (.ref d) ∧ Own.AV G.Z G.Z.heap d false .byte vs ∧ ∀ i, i < 100 → ∃ z, vs[i]? = some (.int z)) ∧ (∃ (d : Addr) (vs : List Value), Sta G.Z G.Z.heap "java/lang/Integer" "DigitTens" "[B" (.ref d) ∧ Own.AV G.Z G.Z.heap d false .byte vs ∧ ∀ i, i < 100 → ∃ z, vs[i]? = some (.int z))
theorem own_wset (us T : List Value) {p : Nat} (v : Value) (h : p < us.length) : (us.take (p + 1) ++ T).set p v = us.take p ++ (v :: T) := by
  rw [List.set_append_left _ _ (by simp; omega), List.take_succ_eq_append_getElem h, List.set_append_right _ _ (by simp; omega), List.length_take, Nat.min_eq_left (by omega), Nat.sub_self, List.set_cons_zero, List.append_assoc]
  rfl
theorem own_wlen (us T : List Value) {p : Nat} (h : p ≤ us.length) : (us.take p ++ T).length = p + T.length := by simp; omega
theorem d25_0 : decode jdk_33_method_13_code 0 = .ok (.iconst 1, 1) := by decide +kernel
theorem d25_1 : decode jdk_33_method_13_code 1 = .ok (.istore_n 1, 1) := by decide +kernel
theorem d25_2 : decode jdk_33_method_13_code 2 = .ok (.iload_n 0, 1) := by decide +kernel
theorem d25_3 : decode jdk_33_method_13_code 3 = .ok (.ifCond .lt 8, 3) := by decide +kernel
theorem d25_6 : decode jdk_33_method_13_code 6 = .ok (.iconst 0, 1) := by decide +kernel
theorem d25_7 : decode jdk_33_method_13_code 7 = .ok (.istore_n 1, 1) := by decide +kernel
theorem d25_8 : decode jdk_33_method_13_code 8 = .ok (.iload_n 0, 1) := by decide +kernel
theorem d25_9 : decode jdk_33_method_13_code 9 = .ok (.ineg, 1) := by decide +kernel
theorem d25_10 : decode jdk_33_method_13_code 10 = .ok (.istore_n 0, 1) := by decide +kernel
theorem d25_11 : decode jdk_33_method_13_code 11 = .ok (.bipush (-10), 2) := by decide +kernel
theorem d25_13 : decode jdk_33_method_13_code 13 = .ok (.istore_n 2, 1) := by decide +kernel
theorem d25_14 : decode jdk_33_method_13_code 14 = .ok (.iconst 1, 1) := by decide +kernel
theorem d25_15 : decode jdk_33_method_13_code 15 = .ok (.istore_n 3, 1) := by decide +kernel
theorem d25_16 : decode jdk_33_method_13_code 16 = .ok (.iload_n 3, 1) := by decide +kernel
theorem d25_17 : decode jdk_33_method_13_code 17 = .ok (.bipush 10, 2) := by decide +kernel
theorem d25_19 : decode jdk_33_method_13_code 19 = .ok (.if_icmp .ge 23, 3) := by decide +kernel
theorem d25_42 : decode jdk_33_method_13_code 42 = .ok (.bipush 10, 2) := by decide +kernel
theorem d25_44 : decode jdk_33_method_13_code 44 = .ok (.iload_n 1, 1) := by decide +kernel
theorem d25_45 : decode jdk_33_method_13_code 45 = .ok (.iadd, 1) := by decide +kernel
theorem d25_46 : decode jdk_33_method_13_code 46 = .ok (.ireturn, 1) := by decide +kernel
theorem d25_22 : decode jdk_33_method_13_code 22 = .ok (.iload_n 0, 1) := by decide +kernel
theorem d25_23 : decode jdk_33_method_13_code 23 = .ok (.iload_n 2, 1) := by decide +kernel
theorem d25_24 : decode jdk_33_method_13_code 24 = .ok (.if_icmp .le 7, 3) := by decide +kernel
theorem d25_27 : decode jdk_33_method_13_code 27 = .ok (.iload_n 3, 1) := by decide +kernel
theorem d25_28 : decode jdk_33_method_13_code 28 = .ok (.iload_n 1, 1) := by decide +kernel
theorem d25_29 : decode jdk_33_method_13_code 29 = .ok (.iadd, 1) := by decide +kernel
theorem d25_30 : decode jdk_33_method_13_code 30 = .ok (.ireturn, 1) := by decide +kernel
theorem d25_31 : decode jdk_33_method_13_code 31 = .ok (.bipush 10, 2) := by decide +kernel
theorem d25_33 : decode jdk_33_method_13_code 33 = .ok (.iload_n 2, 1) := by decide +kernel
theorem d25_34 : decode jdk_33_method_13_code 34 = .ok (.imul, 1) := by decide +kernel
theorem d25_35 : decode jdk_33_method_13_code 35 = .ok (.istore_n 2, 1) := by decide +kernel
theorem d25_36 : decode jdk_33_method_13_code 36 = .ok (.iinc 3 1, 3) := by decide +kernel
theorem d25_39 : decode jdk_33_method_13_code 39 = .ok (.goto (-23), 3) := by decide +kernel
theorem pn_90144274 : plainFor (⟨"java/lang/Integer", "stringSize", "(I)I"⟩ : MethodName) = true := by first | exact plainFor_of_name (by first | (simp [plainName, overriddenIn]; done) | decide +kernel) | decide +kernel
set_option maxRecDepth 65536 in
set_option maxHeartbeats 4000000 in
theorem ct_iss (G : Own.Gx) (hw : ∀ d ∈ tables_1, d.before G.a0 G.Z = true) {As : List Own.Ent} {Li : List Own.LitE} (x : Int32) (n : Nat) (hn : n ≤ 2 ^ 31) (hx : (if x < 0 then x else -x) = Jvm.Free.SBG.negI n) :
    Own.Ct G [] (⟨"java/lang/Integer", "stringSize", "(I)I"⟩ : MethodName) jdk_33_method_13_code 4 (some .int) ({ frames := 0, cells := 0, slots := 0, locals := 0 } : Room) [.int x] As Li (fun v A L => v = some (.int (Jvm.Free.SBG.digits n + own_sg x).toInt32) ∧ As = A ∧ Li = L) := by
  refine Own.Ct.intro pn_90144274 (Ls := [.val (.int x), .unset, .unset, .unset]) rfl rfl ?_
  intro K
  suffices J11 : Own.W G K (⟨"java/lang/Integer", "stringSize", "(I)I"⟩ : MethodName) jdk_33_method_13_code (some .int) ({ frames := 0, cells := 0, slots := 0, locals := 0 } : Room) (fun v A L => v = some (.int (Jvm.Free.SBG.digits n + own_sg x).toInt32) ∧ As = A ∧ Li = L) As Li 0 0 11 [.val (.int (Jvm.Free.SBG.negI n)), .val (.int (own_sg x).toInt32), .unset, .unset] [] by
    by_cases hx0 : x < 0
    · have e1 : own_sg x = 1 := if_pos hx0
      rw [if_pos hx0] at hx
      rw [← hx, e1] at J11
      rw [e1]
      refine Own.W.iconst (pc := 0) (z := (1 : Int32)) d25_0 (by decide) ?_
      refine Own.W.istoreN (pc := 1) (Ls' := [_, _, _, _]) d25_1 rfl rfl ?_
      refine Own.W.iloadN (pc := 2) d25_2 rfl ?_
      refine Own.W.if_lt (pc := 3) 11 d25_3 (by decide) (by decide) ?_ (fun h3 => absurd h3 (fun q => q hx0))
      intro h3
      exact J11
    · have e1 : own_sg x = 0 := if_neg hx0
      rw [if_neg hx0] at hx
      rw [e1] at J11
      rw [e1]
      refine Own.W.iconst (pc := 0) (z := (1 : Int32)) d25_0 (by decide) ?_
      refine Own.W.istoreN (pc := 1) (Ls' := [_, _, _, _]) d25_1 rfl rfl ?_
      refine Own.W.iloadN (pc := 2) d25_2 rfl ?_
      refine Own.W.if_lt (pc := 3) 11 d25_3 (by decide) (by decide) (fun h3 => absurd h3 hx0) ?_
      intro h3
      refine Own.W.iconst (pc := 6) (z := (0 : Int32)) d25_6 (by decide) ?_
      refine Own.W.istoreN (pc := 7) (Ls' := [_, _, _, _]) d25_7 rfl rfl ?_
      refine Own.W.iloadN (pc := 8) d25_8 rfl ?_
      refine Own.W.ineg (pc := 9) d25_9 hx ?_
      refine Own.W.istoreN (pc := 10) (Ls' := [_, _, _, _]) d25_10 rfl rfl ?_
      exact J11
  refine Own.W.bipush (pc := 11) (z := (-10 : Int32)) d25_11 (by decide) ?_
  refine Own.W.istoreN (pc := 13) (Ls' := [_, _, _, _]) d25_13 rfl rfl ?_
  refine Own.W.iconst (pc := 14) (z := (1 : Int32)) d25_14 (by decide) ?_
  refine Own.W.istoreN (pc := 15) (Ls' := [_, _, _, _]) d25_15 rfl rfl ?_
  suffices loop : ∀ (f k : Nat) (p : Int32), k + f = 10 → Jvm.Free.SBG.sizeLoop f (Jvm.Free.SBG.negI n) p k.toInt32 = Int32.ofNat (Jvm.Free.SBG.digits n) → Own.W G K (⟨"java/lang/Integer", "stringSize", "(I)I"⟩ : MethodName) jdk_33_method_13_code (some .int) ({ frames := 0, cells := 0, slots := 0, locals := 0 } : Room) (fun v A L => v = some (.int (Jvm.Free.SBG.digits n + own_sg x).toInt32) ∧ As = A ∧ Li = L) As Li 0 0 16 [.val (.int (Jvm.Free.SBG.negI n)), .val (.int (own_sg x).toInt32), .val (.int p), .val (.int k.toInt32)] [] from loop 9 1 (-10) rfl (Jvm.Free.SBG.sizeLoop_digits hn)
  intro f
  induction f with
  | zero =>
    intro k p hk he
    obtain rfl : k = 10 := by omega
    refine Own.W.iloadN (pc := 16) d25_16 rfl ?_
    refine Own.W.bipush (pc := 17) (z := (10 : Int32)) d25_17 (by decide) ?_
    refine Own.W.ic_ge (pc := 19) 42 d25_19 (by decide) (by decide) ?_ (fun h19 => absurd h19 (by decide))
    intro h19
    refine Own.W.bipush (pc := 42) (z := (10 : Int32)) d25_42 (by decide) ?_
    refine Own.W.iloadN (pc := 44) d25_44 rfl ?_
    refine Own.W.iadd (pc := 45) d25_45 (z := (Jvm.Free.SBG.digits n + own_sg x).toInt32) (by rw [← Own.n_add]; exact congrArg (fun z => z + (own_sg x).toInt32) he) ?_
    refine Own.W.iret (pc := 46) d25_46 rfl (by simp) rfl ?_ (Nat.le_of_ble_eq_true rfl) (Nat.le_of_ble_eq_true rfl)
    exact ⟨rfl, rfl, rfl⟩
  | succ f ih =>
    intro k p hk he
    refine Own.W.iloadN (pc := 16) d25_16 rfl ?_
    refine Own.W.bipush (pc := 17) (z := (10 : Int32)) d25_17 (by decide) ?_
    refine Own.W.ic_ge (pc := 19) 42 d25_19 (by decide) (by decide) (fun h19 => absurd h19 (fun q => q (Own.n_lt (b := 10) (by omega) (by decide)))) ?_
    intro h19
    refine Own.W.iloadN (pc := 22) d25_22 rfl ?_
    refine Own.W.iloadN (pc := 23) d25_23 rfl ?_
    by_cases hp : p < Jvm.Free.SBG.negI n
    · rw [Jvm.Free.SBG.sizeLoop, if_pos hp] at he
      refine Own.W.ic_le (pc := 24) 31 d25_24 (by decide) (by decide) (fun h24 => absurd h24 (fun q => q hp)) ?_
      intro h24
      refine Own.W.iloadN (pc := 27) d25_27 rfl ?_
      refine Own.W.iloadN (pc := 28) d25_28 rfl ?_
      refine Own.W.iadd (pc := 29) d25_29 (z := (Jvm.Free.SBG.digits n + own_sg x).toInt32) (by rw [← Own.n_add]; exact congrArg (fun z => z + (own_sg x).toInt32) he) ?_
      refine Own.W.iret (pc := 30) d25_30 rfl (by simp) rfl ?_ (Nat.le_of_ble_eq_true rfl) (Nat.le_of_ble_eq_true rfl)
      exact ⟨rfl, rfl, rfl⟩
    · rw [Jvm.Free.SBG.sizeLoop, if_neg hp] at he
      refine Own.W.ic_le (pc := 24) 31 d25_24 (by decide) (by decide) ?_ (fun h24 => absurd h24 hp)
      intro h24
      refine Own.W.bipush (pc := 31) (z := (10 : Int32)) d25_31 (by decide) ?_
      refine Own.W.iloadN (pc := 33) d25_33 rfl ?_
      refine Own.W.imul (pc := 34) d25_34 rfl ?_
      refine Own.W.istoreN (pc := 35) (Ls' := [_, _, _, _]) d25_35 rfl rfl ?_
      refine Own.W.iinc (pc := 36) (z := (1 : Int32)) (Ls' := [_, _, _, _]) d25_36 rfl (by decide) rfl rfl ?_
      refine Own.W.goto (pc := 39) 16 d25_39 (by decide) (by decide) ?_
      rw [Own.n_succ] at he
      have ih' := ih (k + 1) (10 * p) (by omega) he
      rw [← Own.n_succ] at ih'
      exact ih'
theorem d27_0 : decode jdk_33_method_12_code 0 = .ok (.iload_n 1, 1) := by decide +kernel
theorem d27_1 : decode jdk_33_method_12_code 1 = .ok (.istore 5, 2) := by decide +kernel
theorem d27_3 : decode jdk_33_method_12_code 3 = .ok (.iload_n 0, 1) := by decide +kernel
theorem d27_4 : decode jdk_33_method_12_code 4 = .ok (.ifCond .ge 7, 3) := by decide +kernel
theorem d27_7 : decode jdk_33_method_12_code 7 = .ok (.iconst 1, 1) := by decide +kernel
theorem d27_8 : decode jdk_33_method_12_code 8 = .ok (.goto 4, 3) := by decide +kernel
theorem d27_12 : decode jdk_33_method_12_code 12 = .ok (.istore 6, 2) := by decide +kernel
theorem d27_14 : decode jdk_33_method_12_code 14 = .ok (.iload 6, 2) := by decide +kernel
theorem d27_16 : decode jdk_33_method_12_code 16 = .ok (.ifCond .ne 6, 3) := by decide +kernel
theorem d27_11 : decode jdk_33_method_12_code 11 = .ok (.iconst 0, 1) := by decide +kernel
theorem d27_19 : decode jdk_33_method_12_code 19 = .ok (.iload_n 0, 1) := by decide +kernel
theorem d27_20 : decode jdk_33_method_12_code 20 = .ok (.ineg, 1) := by decide +kernel
theorem d27_21 : decode jdk_33_method_12_code 21 = .ok (.istore_n 0, 1) := by decide +kernel
theorem d27_22 : decode jdk_33_method_12_code 22 = .ok (.iload_n 0, 1) := by decide +kernel
theorem d27_23 : decode jdk_33_method_12_code 23 = .ok (.bipush (-100), 2) := by decide +kernel
theorem d27_25 : decode jdk_33_method_12_code 25 = .ok (.if_icmp .gt 47, 3) := by decide +kernel
theorem d27_28 : decode jdk_33_method_12_code 28 = .ok (.iload_n 0, 1) := by decide +kernel
theorem d27_29 : decode jdk_33_method_12_code 29 = .ok (.bipush 100, 2) := by decide +kernel
theorem d27_31 : decode jdk_33_method_12_code 31 = .ok (.idiv, 1) := by decide +kernel
theorem d27_32 : decode jdk_33_method_12_code 32 = .ok (.istore_n 3, 1) := by decide +kernel
theorem d27_33 : decode jdk_33_method_12_code 33 = .ok (.iload_n 3, 1) := by decide +kernel
theorem d27_34 : decode jdk_33_method_12_code 34 = .ok (.bipush 100, 2) := by decide +kernel
theorem d27_36 : decode jdk_33_method_12_code 36 = .ok (.imul, 1) := by decide +kernel
theorem d27_37 : decode jdk_33_method_12_code 37 = .ok (.iload_n 0, 1) := by decide +kernel
theorem d27_38 : decode jdk_33_method_12_code 38 = .ok (.isub, 1) := by decide +kernel
theorem d27_39 : decode jdk_33_method_12_code 39 = .ok (.istore 4, 2) := by decide +kernel
theorem d27_41 : decode jdk_33_method_12_code 41 = .ok (.iload_n 3, 1) := by decide +kernel
theorem d27_42 : decode jdk_33_method_12_code 42 = .ok (.istore_n 0, 1) := by decide +kernel
theorem d27_43 : decode jdk_33_method_12_code 43 = .ok (.aload_n 2, 1) := by decide +kernel
theorem d27_44 : decode jdk_33_method_12_code 44 = .ok (.iinc 5 (-1), 3) := by decide +kernel
theorem d27_47 : decode jdk_33_method_12_code 47 = .ok (.iload 5, 2) := by decide +kernel
theorem d27_49 : decode jdk_33_method_12_code 49 = .ok (.getstatic 83, 3) := by decide +kernel
theorem d27_52 : decode jdk_33_method_12_code 52 = .ok (.iload 4, 2) := by decide +kernel
theorem d27_54 : decode jdk_33_method_12_code 54 = .ok (.baload, 1) := by decide +kernel
theorem d27_55 : decode jdk_33_method_12_code 55 = .ok (.bastore, 1) := by decide +kernel
theorem d27_56 : decode jdk_33_method_12_code 56 = .ok (.aload_n 2, 1) := by decide +kernel
theorem d27_57 : decode jdk_33_method_12_code 57 = .ok (.iinc 5 (-1), 3) := by decide +kernel
theorem d27_60 : decode jdk_33_method_12_code 60 = .ok (.iload 5, 2) := by decide +kernel
theorem d27_62 : decode jdk_33_method_12_code 62 = .ok (.getstatic 87, 3) := by decide +kernel
theorem d27_65 : decode jdk_33_method_12_code 65 = .ok (.iload 4, 2) := by decide +kernel
theorem d27_67 : decode jdk_33_method_12_code 67 = .ok (.baload, 1) := by decide +kernel
theorem d27_68 : decode jdk_33_method_12_code 68 = .ok (.bastore, 1) := by decide +kernel
theorem d27_69 : decode jdk_33_method_12_code 69 = .ok (.goto (-47), 3) := by decide +kernel
theorem d27_72 : decode jdk_33_method_12_code 72 = .ok (.aload_n 2, 1) := by decide +kernel
theorem d27_73 : decode jdk_33_method_12_code 73 = .ok (.iinc 5 (-1), 3) := by decide +kernel
theorem d27_76 : decode jdk_33_method_12_code 76 = .ok (.iload 5, 2) := by decide +kernel
theorem d27_78 : decode jdk_33_method_12_code 78 = .ok (.getstatic 83, 3) := by decide +kernel
theorem d27_81 : decode jdk_33_method_12_code 81 = .ok (.iload_n 0, 1) := by decide +kernel
theorem d27_82 : decode jdk_33_method_12_code 82 = .ok (.ineg, 1) := by decide +kernel
theorem d27_83 : decode jdk_33_method_12_code 83 = .ok (.baload, 1) := by decide +kernel
theorem d27_84 : decode jdk_33_method_12_code 84 = .ok (.bastore, 1) := by decide +kernel
theorem d27_85 : decode jdk_33_method_12_code 85 = .ok (.iload_n 0, 1) := by decide +kernel
theorem d27_86 : decode jdk_33_method_12_code 86 = .ok (.bipush (-9), 2) := by decide +kernel
theorem d27_88 : decode jdk_33_method_12_code 88 = .ok (.if_icmp .ge 16, 3) := by decide +kernel
theorem d27_91 : decode jdk_33_method_12_code 91 = .ok (.aload_n 2, 1) := by decide +kernel
theorem d27_92 : decode jdk_33_method_12_code 92 = .ok (.iinc 5 (-1), 3) := by decide +kernel
theorem d27_95 : decode jdk_33_method_12_code 95 = .ok (.iload 5, 2) := by decide +kernel
theorem d27_97 : decode jdk_33_method_12_code 97 = .ok (.getstatic 87, 3) := by decide +kernel
theorem d27_100 : decode jdk_33_method_12_code 100 = .ok (.iload_n 0, 1) := by decide +kernel
theorem d27_101 : decode jdk_33_method_12_code 101 = .ok (.ineg, 1) := by decide +kernel
theorem d27_102 : decode jdk_33_method_12_code 102 = .ok (.baload, 1) := by decide +kernel
theorem d27_103 : decode jdk_33_method_12_code 103 = .ok (.bastore, 1) := by decide +kernel
theorem d27_104 : decode jdk_33_method_12_code 104 = .ok (.iload 6, 2) := by decide +kernel
theorem d27_106 : decode jdk_33_method_12_code 106 = .ok (.ifCond .eq 12, 3) := by decide +kernel
theorem d27_109 : decode jdk_33_method_12_code 109 = .ok (.aload_n 2, 1) := by decide +kernel
theorem d27_110 : decode jdk_33_method_12_code 110 = .ok (.iinc 5 (-1), 3) := by decide +kernel
theorem d27_113 : decode jdk_33_method_12_code 113 = .ok (.iload 5, 2) := by decide +kernel
theorem d27_115 : decode jdk_33_method_12_code 115 = .ok (.bipush 45, 2) := by decide +kernel
theorem d27_117 : decode jdk_33_method_12_code 117 = .ok (.bastore, 1) := by decide +kernel
theorem d27_118 : decode jdk_33_method_12_code 118 = .ok (.iload 5, 2) := by decide +kernel
theorem d27_120 : decode jdk_33_method_12_code 120 = .ok (.ireturn, 1) := by decide +kernel
theorem pn_76067063 : plainFor (⟨"java/lang/Integer", "getChars", "(II[B)I"⟩ : MethodName) = true := by first | exact plainFor_of_name (by first | (simp [plainName, overriddenIn]; done) | decide +kernel) | decide +kernel
set_option maxRecDepth 65536 in
set_option maxHeartbeats 4000000 in
theorem ct_igc (G : Own.Gx) (hw : ∀ d ∈ tables_1, d.before G.a0 G.Z = true) (hDg : Digs G) {As : List Own.Ent} {Li : List Own.LitE} (x : Int32) (n : Nat) (hn : n ≤ 2 ^ 31) (hx : (if x < 0 then x else -x) = Jvm.Free.SBG.negI n) (e0 : Own.Ent) (b : Addr) (us : List Value) (m : Nat) (hmu : m + (Jvm.Free.SBG.digits n + own_sg x) ≤ us.length) (hu : us.length ≤ 4000) :
    Own.Ct G [] (⟨"java/lang/Integer", "getChars", "(II[B)I"⟩ : MethodName) jdk_33_method_12_code 7 (some .int) ({ frames := 0, cells := 0, slots := 0, locals := 0 } : Room) [.int x, .int (m + (Jvm.Free.SBG.digits n + own_sg x)).toInt32, .ref b] (e0 :: (b, true, Own.arr .byte us) :: As) Li (fun v A L => ∃ (r : Int32) (ds : List Int32), v = some (.int r) ∧ ds.length = Jvm.Free.SBG.digits n + own_sg x ∧ A = e0 :: (b, true, Own.arr .byte (us.take m ++ ds.map Value.int ++ us.drop (m + ds.length))) :: As ∧ Li = L) := by
  refine Own.Ct.intro pn_76067063 (Ls := [.val (.int x), .val (.int (m + (Jvm.Free.SBG.digits n + own_sg x)).toInt32), .val (.ref b), .unset, .unset, .unset, .unset]) rfl rfl ?_
  intro K
  obtain ⟨⟨d1, v1, D1, D2, D3⟩, d2, v2, E1, E2, E3⟩ := hDg
  suffices loop : ∀ (f k p : Nat) (ds : List Int32) (o3 o4 : Slot), 1 ≤ f → k < 100 ^ f → k ≤ 2 ^ 31 → p = m + Jvm.Free.SBG.wN f k + own_sg x → p + ds.length = (m + (Jvm.Free.SBG.digits n + own_sg x)) → One o3 → One o4 → Own.W G K (⟨"java/lang/Integer", "getChars", "(II[B)I"⟩ : MethodName) jdk_33_method_12_code (some .int) ({ frames := 0, cells := 0, slots := 0, locals := 0 } : Room) (fun v A L => ∃ (r : Int32) (ds : List Int32), v = some (.int r) ∧ ds.length = Jvm.Free.SBG.digits n + own_sg x ∧ A = e0 :: (b, true, Own.arr .byte (us.take m ++ ds.map Value.int ++ us.drop (m + ds.length))) :: As ∧ Li = L) (e0 :: (b, true, Own.arr .byte (us.take p ++ (ds.map Value.int ++ us.drop (m + (Jvm.Free.SBG.digits n + own_sg x))))) :: As) Li 0 0 22 [.val (.int (Jvm.Free.SBG.negI k)), .val (.int (m + (Jvm.Free.SBG.digits n + own_sg x)).toInt32), .val (.ref b), o3, o4, .val (.int p.toInt32), .val (.int (own_sg x).toInt32)] [] by
    have j := loop 5 n (m + (Jvm.Free.SBG.digits n + own_sg x)) [] .unset .unset (by decide) (by omega) hn (by rw [Jvm.Free.SBG.wN_digits hn]; omega) (by simp) One.u One.u
    rw [List.map_nil, List.nil_append, List.take_append_drop] at j
    by_cases hx0 : x < 0
    · rw [if_pos hx0] at hx
      subst hx
      have e1 : own_sg _ = 1 := if_pos hx0
      rw [e1] at j ⊢
      refine Own.W.iloadN (pc := 0) d27_0 rfl ?_
      refine Own.W.istore (pc := 1) (Ls' := [_, _, _, _, _, _, _]) d27_1 rfl rfl ?_
      refine Own.W.iloadN (pc := 3) d27_3 rfl ?_
      refine Own.W.if_ge (pc := 4) 11 d27_4 (by decide) (by decide) (fun h4 => absurd h4 (fun q => q hx0)) ?_
      intro h4
      refine Own.W.iconst (pc := 7) (z := (1 : Int32)) d27_7 (by decide) ?_
      refine Own.W.goto (pc := 8) 12 d27_8 (by decide) (by decide) ?_
      refine Own.W.istore (pc := 12) (Ls' := [_, _, _, _, _, _, _]) d27_12 rfl rfl ?_
      refine Own.W.iload (pc := 14) d27_14 rfl ?_
      refine Own.W.if_ne (pc := 16) 22 d27_16 (by decide) (by decide) ?_ (fun h16 => absurd h16 (by decide))
      intro h16
      exact j
    · rw [if_neg hx0] at hx
      have e1 : own_sg x = 0 := if_neg hx0
      rw [e1] at j ⊢
      refine Own.W.iloadN (pc := 0) d27_0 rfl ?_
      refine Own.W.istore (pc := 1) (Ls' := [_, _, _, _, _, _, _]) d27_1 rfl rfl ?_
      refine Own.W.iloadN (pc := 3) d27_3 rfl ?_
      refine Own.W.if_ge (pc := 4) 11 d27_4 (by decide) (by decide) ?_ (fun h4 => absurd h4 hx0)
      intro h4
      refine Own.W.iconst (pc := 11) (z := (0 : Int32)) d27_11 (by decide) ?_
      refine Own.W.istore (pc := 12) (Ls' := [_, _, _, _, _, _, _]) d27_12 rfl rfl ?_
      refine Own.W.iload (pc := 14) d27_14 rfl ?_
      refine Own.W.if_ne (pc := 16) 22 d27_16 (by decide) (by decide) (fun h16 => absurd h16 (fun q => q rfl)) ?_
      intro h16
      refine Own.W.iloadN (pc := 19) d27_19 rfl ?_
      refine Own.W.ineg (pc := 20) d27_20 hx ?_
      refine Own.W.istoreN (pc := 21) (Ls' := [_, _, _, _, _, _, _]) d27_21 rfl rfl ?_
      exact j
  suffices J104 : ∀ (k p : Nat) (ds : List Int32) (o3 o4 : Slot), p = m + own_sg x → p + ds.length = (m + (Jvm.Free.SBG.digits n + own_sg x)) → Own.W G K (⟨"java/lang/Integer", "getChars", "(II[B)I"⟩ : MethodName) jdk_33_method_12_code (some .int) ({ frames := 0, cells := 0, slots := 0, locals := 0 } : Room) (fun v A L => ∃ (r : Int32) (ds : List Int32), v = some (.int r) ∧ ds.length = Jvm.Free.SBG.digits n + own_sg x ∧ A = e0 :: (b, true, Own.arr .byte (us.take m ++ ds.map Value.int ++ us.drop (m + ds.length))) :: As ∧ Li = L) (e0 :: (b, true, Own.arr .byte (us.take p ++ (ds.map Value.int ++ us.drop (m + (Jvm.Free.SBG.digits n + own_sg x))))) :: As) Li 0 0 104 [.val (.int (Jvm.Free.SBG.negI k)), .val (.int (m + (Jvm.Free.SBG.digits n + own_sg x)).toInt32), .val (.ref b), o3, o4, .val (.int p.toInt32), .val (.int (own_sg x).toInt32)] [] by
    intro f
    induction f with
    | zero => exact fun k p ds o3 o4 h1 => absurd h1 (by decide)
    | succ f ih =>
      intro k p ds o3 o4 h1 h2 h3 h4 h5 ho3 ho4
      by_cases h100 : 100 ≤ k
      · rw [Jvm.Free.SBG.wN, if_pos h100] at h4
        obtain ⟨q, rfl⟩ : ∃ q, p = q + 1 + 1 := ⟨p - 2, by omega⟩
        obtain ⟨z1, hz1⟩ := D3 (k % 100) (by omega)
        obtain ⟨z2, hz2⟩ := E3 (k % 100) (by omega)
        have hf1 : 1 ≤ f := by
          cases f with
          | zero => simp at h2; omega
          | succ f => omega
        have hk2 : k / 100 < 100 ^ f := Nat.div_lt_of_lt_mul (by rw [Nat.pow_succ, Nat.mul_comm] at h2; exact h2)
        refine Own.W.iloadN (pc := 22) d27_22 rfl ?_
        refine Own.W.bipush (pc := 23) (z := (-100 : Int32)) d27_23 (by decide) ?_
        refine Own.W.ic_gt (pc := 25) 72 d27_25 (by decide) (by decide) (fun h25 => absurd h25 (fun q => absurd ((Jvm.Free.SBG.negI_lt h3 100 (by decide)).mp q) (by omega))) ?_
        intro h25
        refine Own.W.iloadN (pc := 28) d27_28 rfl ?_
        refine Own.W.bipush (pc := 29) (z := (100 : Int32)) d27_29 (by decide) ?_
        refine Own.W.idiv (pc := 31) d27_31 (by decide) (z := Jvm.Free.SBG.negI (k / 100)) (Jvm.Free.SBG.negI_div100 h3) ?_
        refine Own.W.istoreN (pc := 32) (Ls' := [_, _, _, _, _, _, _]) d27_32 (Own.store_one rfl ho3 rfl) rfl ?_
        refine Own.W.iloadN (pc := 33) d27_33 rfl ?_
        refine Own.W.bipush (pc := 34) (z := (100 : Int32)) d27_34 (by decide) ?_
        refine Own.W.imul (pc := 36) d27_36 rfl ?_
        refine Own.W.iloadN (pc := 37) d27_37 rfl ?_
        refine Own.W.isub (pc := 38) d27_38 (z := (k % 100).toInt32) (Jvm.Free.SBG.negI_rem h3) ?_
        refine Own.W.istore (pc := 39) (Ls' := [_, _, _, _, _, _, _]) d27_39 (Own.store_one rfl ho4 rfl) rfl ?_
        refine Own.W.iloadN (pc := 41) d27_41 rfl ?_
        refine Own.W.istoreN (pc := 42) (Ls' := [_, _, _, _, _, _, _]) d27_42 rfl rfl ?_
        refine Own.W.aloadN (pc := 43) d27_43 rfl rfl ?_
        refine Own.W.iinc (pc := 44) (z := (-1 : Int32)) (Ls' := [_, _, _, _, _, _, _]) d27_44 rfl (by decide) (Own.store_one rfl (One.val rfl) rfl) (by simp) ?_
        rw [Own.n_pred]
        refine Own.W.iload (pc := 47) d27_47 rfl ?_
        refine Own.W.getS (pc := 49) (host := "") (Or.inl (hw _ (List.mem_of_getElem? (i := 188) rfl))) (Via.refl (O := "java/lang/Integer")) d27_49 D1 ?_
        refine Own.W.iload (pc := 52) d27_52 rfl ?_
        refine Own.W.baload (pc := 54) d27_54 (Own.AVin.old D2) (Own.n_nn (by omega)) (v := .int z1) (by rw [Own.n_clamp (by omega)]; exact hz1) ?_
        refine Own.W.bastore (pc := 55) d27_55 (Own.n_nn (by omega)) (i := (q + 1)) (Own.n_clamp (by omega)) (by rw [own_wlen _ _ (by omega)]; omega) (u := .int (nar .byte z1)) rfl (own_wset us (ds.map Value.int ++ us.drop (m + (Jvm.Free.SBG.digits n + own_sg x))) _ (by omega)) (Own.Upd.tail Own.Upd.head) ?_
        refine Own.W.aloadN (pc := 56) d27_56 rfl rfl ?_
        refine Own.W.iinc (pc := 57) (z := (-1 : Int32)) (Ls' := [_, _, _, _, _, _, _]) d27_57 rfl (by decide) (Own.store_one rfl (One.val rfl) rfl) (by simp) ?_
        rw [Own.n_pred]
        refine Own.W.iload (pc := 60) d27_60 rfl ?_
        refine Own.W.getS (pc := 62) (host := "") (Or.inl (hw _ (List.mem_of_getElem? (i := 265) rfl))) (Via.refl (O := "java/lang/Integer")) d27_62 E1 ?_
        refine Own.W.iload (pc := 65) d27_65 rfl ?_
        refine Own.W.baload (pc := 67) d27_67 (Own.AVin.old E2) (Own.n_nn (by omega)) (v := .int z2) (by rw [Own.n_clamp (by omega)]; exact hz2) ?_
        refine Own.W.bastore (pc := 68) d27_68 (Own.n_nn (by omega)) (i := q) (Own.n_clamp (by omega)) (by rw [own_wlen _ _ (by omega)]; omega) (u := .int (nar .byte z2)) rfl (own_wset us ((.int (nar .byte z1)) :: (ds.map Value.int ++ us.drop (m + (Jvm.Free.SBG.digits n + own_sg x)))) _ (by omega)) (Own.Upd.tail Own.Upd.head) ?_
        refine Own.W.goto (pc := 69) 22 d27_69 (by decide) (by decide) ?_
        exact ih (k / 100) q (nar .byte z2 :: nar .byte z1 :: ds) _ _ hf1 hk2 (by omega) (by omega) (by simp only [List.length_cons]; omega) (One.val rfl) (One.val rfl)
      · rw [Jvm.Free.SBG.wN, if_neg h100] at h4
        obtain ⟨q, rfl⟩ : ∃ q, p = q + 1 := ⟨p - 1, by split at h4 <;> omega⟩
        obtain ⟨z1, hz1⟩ := D3 k (by omega)
        obtain ⟨z2, hz2⟩ := E3 k (by omega)
        refine Own.W.iloadN (pc := 22) d27_22 rfl ?_
        refine Own.W.bipush (pc := 23) (z := (-100 : Int32)) d27_23 (by decide) ?_
        refine Own.W.ic_gt (pc := 25) 72 d27_25 (by decide) (by decide) ?_ (fun h25 => absurd h25 (fun q => q ((Jvm.Free.SBG.negI_lt h3 100 (by decide)).mpr (by omega))))
        intro h25
        refine Own.W.aloadN (pc := 72) d27_72 rfl rfl ?_
        refine Own.W.iinc (pc := 73) (z := (-1 : Int32)) (Ls' := [_, _, _, _, _, _, _]) d27_73 rfl (by decide) (Own.store_one rfl (One.val rfl) rfl) (by simp) ?_
        rw [Own.n_pred]
        refine Own.W.iload (pc := 76) d27_76 rfl ?_
        refine Own.W.getS (pc := 78) (host := "") (Or.inl (hw _ (List.mem_of_getElem? (i := 188) rfl))) (Via.refl (O := "java/lang/Integer")) d27_78 D1 ?_
        refine Own.W.iloadN (pc := 81) d27_81 rfl ?_
        refine Own.W.ineg (pc := 82) d27_82 (z := k.toInt32) (Jvm.Free.SBG.neg_negI (by omega)) ?_
        refine Own.W.baload (pc := 83) d27_83 (Own.AVin.old D2) (Own.n_nn (by omega)) (v := .int z1) (by rw [Own.n_clamp (by omega)]; exact hz1) ?_
        refine Own.W.bastore (pc := 84) d27_84 (Own.n_nn (by omega)) (i := q) (Own.n_clamp (by omega)) (by rw [own_wlen _ _ (by omega)]; omega) (u := .int (nar .byte z1)) rfl (own_wset us (ds.map Value.int ++ us.drop (m + (Jvm.Free.SBG.digits n + own_sg x))) _ (by omega)) (Own.Upd.tail Own.Upd.head) ?_
        refine Own.W.iloadN (pc := 85) d27_85 rfl ?_
        refine Own.W.bipush (pc := 86) (z := (-9 : Int32)) d27_86 (by decide) ?_
        by_cases h9 : 9 < k
        · rw [if_pos h9] at h4
          obtain ⟨r, rfl⟩ : ∃ r, q = r + 1 := ⟨q - 1, by omega⟩
          refine Own.W.ic_ge (pc := 88) 104 d27_88 (by decide) (by decide) (fun h88 => absurd h88 (fun q => q ((Jvm.Free.SBG.negI_lt (n := 9) (by decide) k h3).mpr h9))) ?_
          intro h88
          refine Own.W.aloadN (pc := 91) d27_91 rfl rfl ?_
          refine Own.W.iinc (pc := 92) (z := (-1 : Int32)) (Ls' := [_, _, _, _, _, _, _]) d27_92 rfl (by decide) (Own.store_one rfl (One.val rfl) rfl) (by simp) ?_
          rw [Own.n_pred]
          refine Own.W.iload (pc := 95) d27_95 rfl ?_
          refine Own.W.getS (pc := 97) (host := "") (Or.inl (hw _ (List.mem_of_getElem? (i := 265) rfl))) (Via.refl (O := "java/lang/Integer")) d27_97 E1 ?_
          refine Own.W.iloadN (pc := 100) d27_100 rfl ?_
          refine Own.W.ineg (pc := 101) d27_101 (z := k.toInt32) (Jvm.Free.SBG.neg_negI (by omega)) ?_
          refine Own.W.baload (pc := 102) d27_102 (Own.AVin.old E2) (Own.n_nn (by omega)) (v := .int z2) (by rw [Own.n_clamp (by omega)]; exact hz2) ?_
          refine Own.W.bastore (pc := 103) d27_103 (Own.n_nn (by omega)) (i := r) (Own.n_clamp (by omega)) (by rw [own_wlen _ _ (by omega)]; omega) (u := .int (nar .byte z2)) rfl (own_wset us ((.int (nar .byte z1)) :: (ds.map Value.int ++ us.drop (m + (Jvm.Free.SBG.digits n + own_sg x)))) _ (by omega)) (Own.Upd.tail Own.Upd.head) ?_
          exact J104 k r (nar .byte z2 :: nar .byte z1 :: ds) o3 o4 (by omega) (by simp only [List.length_cons]; omega)
        · rw [if_neg h9] at h4
          refine Own.W.ic_ge (pc := 88) 104 d27_88 (by decide) (by decide) ?_ (fun h88 => absurd h88 (fun q => h9 ((Jvm.Free.SBG.negI_lt (n := 9) (by decide) k h3).mp q)))
          intro h88
          exact J104 k q (nar .byte z1 :: ds) o3 o4 (by omega) (by simp only [List.length_cons]; omega)
  intro k p ds o3 o4 h4 h5
  by_cases hx0 : x < 0
  · have e1 : own_sg x = 1 := if_pos hx0
    rw [e1] at h4
    obtain rfl : p = m + 1 := h4
    refine Own.W.iload (pc := 104) d27_104 rfl ?_
    rw [e1]
    refine Own.W.if_eq (pc := 106) 118 d27_106 (by decide) (by decide) (fun h106 => absurd h106 (by decide)) ?_
    intro h106
    refine Own.W.aloadN (pc := 109) d27_109 rfl rfl ?_
    refine Own.W.iinc (pc := 110) (z := (-1 : Int32)) (Ls' := [_, _, _, _, _, _, _]) d27_110 rfl (by decide) (Own.store_one rfl (One.val rfl) rfl) (by simp) ?_
    rw [Own.n_pred]
    refine Own.W.iload (pc := 113) d27_113 rfl ?_
    refine Own.W.bipush (pc := 115) (z := (45 : Int32)) d27_115 (by decide) ?_
    refine Own.W.bastore (pc := 117) d27_117 (Own.n_nn (by omega)) (i := m) (Own.n_clamp (by omega)) (by rw [own_wlen _ _ (by omega)]; omega) (u := .int (nar .byte 45)) rfl (own_wset us (ds.map Value.int ++ us.drop (m + (Jvm.Free.SBG.digits n + 1))) _ (by omega)) (Own.Upd.tail Own.Upd.head) ?_
    refine Own.W.iload (pc := 118) d27_118 rfl ?_
    refine Own.W.iret (pc := 120) d27_120 rfl (by simp) rfl ?_ (Nat.le_of_ble_eq_true rfl) (Nat.le_of_ble_eq_true rfl)
    exact ⟨_, nar .byte 45 :: ds, rfl, by simp only [List.length_cons]; omega, by simp only [List.length_cons, List.map_cons]; rw [show m + (ds.length + 1) = m + (Jvm.Free.SBG.digits n + 1) by omega, List.append_assoc]; rfl, rfl⟩
  · have e1 : own_sg x = 0 := if_neg hx0
    rw [e1] at h4
    obtain rfl : m = p := h4.symm
    refine Own.W.iload (pc := 104) d27_104 rfl ?_
    rw [e1]
    refine Own.W.if_eq (pc := 106) 118 d27_106 (by decide) (by decide) ?_ (fun h106 => absurd h106 (fun q => q rfl))
    intro h106
    refine Own.W.iload (pc := 118) d27_118 rfl ?_
    refine Own.W.iret (pc := 120) d27_120 rfl (by simp) rfl ?_ (Nat.le_of_ble_eq_true rfl) (Nat.le_of_ble_eq_true rfl)
    exact ⟨_, ds, rfl, by omega, by rw [show m + ds.length = m + (Jvm.Free.SBG.digits n + 0) by omega, List.append_assoc], rfl⟩
theorem d24_0 : decode jdk_68_method_32_code 0 = .ok (.aload_n 0, 1) := by decide +kernel
theorem d24_1 : decode jdk_68_method_32_code 1 = .ok (.getfield 79, 3) := by decide +kernel
theorem d24_4 : decode jdk_68_method_32_code 4 = .ok (.istore_n 2, 1) := by decide +kernel
theorem d24_5 : decode jdk_68_method_32_code 5 = .ok (.iload_n 2, 1) := by decide +kernel
theorem d24_6 : decode jdk_68_method_32_code 6 = .ok (.iload_n 1, 1) := by decide +kernel
theorem d24_7 : decode jdk_68_method_32_code 7 = .ok (.invokestatic 245, 3) := by decide +kernel
theorem d24_10 : decode jdk_68_method_32_code 10 = .ok (.iadd, 1) := by decide +kernel
theorem d24_11 : decode jdk_68_method_32_code 11 = .ok (.istore_n 3, 1) := by decide +kernel
theorem d24_12 : decode jdk_68_method_32_code 12 = .ok (.aload_n 0, 1) := by decide +kernel
theorem d24_13 : decode jdk_68_method_32_code 13 = .ok (.iload_n 3, 1) := by decide +kernel
theorem d24_14 : decode jdk_68_method_32_code 14 = .ok (.invokevirtual 100, 3) := by decide +kernel
theorem d24_17 : decode jdk_68_method_32_code 17 = .ok (.aload_n 0, 1) := by decide +kernel
theorem d24_18 : decode jdk_68_method_32_code 18 = .ok (.invokevirtual 83, 3) := by decide +kernel
theorem d24_21 : decode jdk_68_method_32_code 21 = .ok (.ifCond .eq 16, 3) := by decide +kernel
theorem d24_24 : decode jdk_68_method_32_code 24 = .ok (.iload_n 1, 1) := by decide +kernel
theorem d24_25 : decode jdk_68_method_32_code 25 = .ok (.iload_n 3, 1) := by decide +kernel
theorem d24_26 : decode jdk_68_method_32_code 26 = .ok (.aload_n 0, 1) := by decide +kernel
theorem d24_27 : decode jdk_68_method_32_code 27 = .ok (.getfield 15, 3) := by decide +kernel
theorem d24_30 : decode jdk_68_method_32_code 30 = .ok (.invokestatic 248, 3) := by decide +kernel
theorem pd_28800014 : parseMethodDescriptor "(II[B)I" = some ⟨[.int, .int, (.array .byte)], some .int⟩ := by decide +kernel
theorem d24_33 : decode jdk_68_method_32_code 33 = .ok (.pop, 1) := by decide +kernel
theorem d24_34 : decode jdk_68_method_32_code 34 = .ok (.goto 14, 3) := by decide +kernel
theorem d24_48 : decode jdk_68_method_32_code 48 = .ok (.aload_n 0, 1) := by decide +kernel
theorem d24_49 : decode jdk_68_method_32_code 49 = .ok (.iload_n 3, 1) := by decide +kernel
theorem d24_50 : decode jdk_68_method_32_code 50 = .ok (.putfield 79, 3) := by decide +kernel
theorem d24_53 : decode jdk_68_method_32_code 53 = .ok (.aload_n 0, 1) := by decide +kernel
theorem d24_54 : decode jdk_68_method_32_code 54 = .ok (.areturn, 1) := by decide +kernel
theorem pn_95434062 : plainFor (⟨"java/lang/AbstractStringBuilder", "append", "(I)Ljava/lang/AbstractStringBuilder;"⟩ : MethodName) = true := by first | exact plainFor_of_name (by first | (simp [plainName, overriddenIn]; done) | decide +kernel) | decide +kernel
set_option maxRecDepth 65536 in
set_option maxHeartbeats 4000000 in
theorem ct_aai (G : Own.Gx) (hw : ∀ d ∈ tables_1, d.before G.a0 G.Z = true) (hC : Own.CSt G) (hDg : Digs G) {As : List Own.Ent} {Li : List Own.LitE} (o b : Addr) (xs : List Int32) (cap : Nat) (hxc : xs.length ≤ cap) (hcap : cap ≤ 4000) (x : Int32) (n : Nat) (hn : n ≤ 2 ^ 31) (hx : (if x < 0 then x else -x) = Jvm.Free.SBG.negI n) (N : Nat) (hl : xs.length + 11 ≤ 4000) (hN : Own.grow cap (xs.length + (Jvm.Free.SBG.digits n + own_sg x)) ≤ N) (hN4 : N ≤ 4000) :
    Own.Ct G [] (⟨"java/lang/AbstractStringBuilder", "append", "(I)Ljava/lang/AbstractStringBuilder;"⟩ : MethodName) jdk_68_method_32_code 4 (some (.object "java/lang/AbstractStringBuilder")) ({ frames := 4, cells := 1, slots := N, locals := 62 } : Room) [.ref o, .int x] ((o, true, Own.obj "java/lang/StringBuilder" F_java_lang_StringBuilder [.ref b, .int 0, .int xs.length.toInt32]) :: (b, true, Own.arr .byte (Own.pad xs cap)) :: As) Li (fun v A L => ∃ (b2 : Addr) (A0 : List Own.Ent) (ds : List Int32), v = some (.ref o) ∧ ds.length = Jvm.Free.SBG.digits n + own_sg x ∧ A = ((o, true, Own.obj "java/lang/StringBuilder" F_java_lang_StringBuilder [.ref b2, .int 0, .int (xs ++ ds).length.toInt32]) :: (b2, true, Own.arr .byte (Own.pad (xs ++ ds) (Own.grow cap (xs.length + (Jvm.Free.SBG.digits n + own_sg x))))) :: A0) ∧ Own.Sub As A0 ∧ Li = L) := by
  refine Own.Ct.intro pn_95434062 (Ls := [.val (.ref o), .val (.int x), .unset, .unset]) rfl rfl ?_
  intro K
  have hk := Jvm.Free.SBG.digits_pos n
  have hsg : own_sg x ≤ 1 := by unfold own_sg; split <;> omega
  obtain ⟨k, hkd⟩ : ∃ k, k = Jvm.Free.SBG.digits n + own_sg x := ⟨_, rfl⟩
  refine Own.W.aloadN (pc := 0) d24_0 rfl rfl ?_
  refine Own.W.getF (pc := 1) (host := "") (Or.inl (hw _ (List.mem_of_getElem? (i := 137) rfl))) (Via.refl (O := "java/lang/AbstractStringBuilder")) d24_1 (by repeat (first | exact List.Mem.head _ | assumption | exact List.mem_append_right _ (List.Mem.head _) | apply List.Mem.tail)) (by repeat (first | exact Own.FAt.head | apply Own.FAt.tail)) ?_
  refine Own.W.istoreN (pc := 4) (Ls' := [_, _, _, _]) d24_4 rfl rfl ?_
  refine Own.W.iloadN (pc := 5) d24_5 rfl ?_
  refine Own.W.iloadN (pc := 6) d24_6 rfl ?_
  refine Own.W.callS (pc := 7) (ct_iss G hw x n hn hx) d24_7 (hw _ (List.mem_of_getElem? (i := 176) rfl)) (hw _ (List.mem_of_getElem? (i := 177) rfl)) (hw _ (List.mem_of_getElem? (i := 178) rfl)) (hw _ (List.mem_of_getElem? (i := 179) rfl)) (by decide) pd_87992008 rfl rfl (Nat.le_of_ble_eq_true rfl) (Nat.le_of_ble_eq_true rfl) (by first | exact Nat.le_of_ble_eq_true rfl | (simp; done) | (simp; omega)) (by first | exact Nat.le_of_ble_eq_true rfl | (simp; done) | (simp; omega)) ?_
  rintro _ _ _ ⟨rfl, rfl, rfl⟩
  refine Own.W.iadd (pc := 10) d24_10 (z := (xs.length + (Jvm.Free.SBG.digits n + own_sg x)).toInt32) (Own.n_add _ _) ?_
  refine Own.W.istoreN (pc := 11) (Ls' := [_, _, _, _]) d24_11 rfl rfl ?_
  refine Own.W.aloadN (pc := 12) d24_12 rfl rfl ?_
  refine Own.W.iloadN (pc := 13) d24_13 rfl ?_
  refine Own.W.callV (pc := 14) (ct_eci G hw o b xs cap hxc hcap (xs.length + (Jvm.Free.SBG.digits n + own_sg x)) N (by omega) hN hN4) d24_14 (C := "java/lang/StringBuilder") (Own.Is.mem (List.Mem.head _)) (hw _ (List.mem_of_getElem? (i := 139) rfl)) (Own.decl_of (hw _ (List.mem_of_getElem? (i := 140) rfl)) (hw _ (List.mem_of_getElem? (i := 143) rfl))) (Own.nf_sel (hw _ (List.mem_of_getElem? (i := 142) rfl))) (hw _ (List.mem_of_getElem? (i := 142) rfl)) (hw _ (List.mem_of_getElem? (i := 140) rfl)) (hw _ (List.mem_of_getElem? (i := 109) rfl)) (hw _ (List.mem_of_getElem? (i := 143) rfl)) (by decide) pd_87992021 rfl rfl (Nat.le_of_ble_eq_true rfl) (Nat.le_of_ble_eq_true rfl) (by first | exact Nat.le_of_ble_eq_true rfl | (simp; done) | (simp; omega)) (by first | exact Nat.le_of_ble_eq_true rfl | (simp; done) | (simp; omega)) ?_
  rintro _ _ _ ⟨b2, A0, rfl, rfl, hsub, rfl⟩
  have hge : xs.length + (Jvm.Free.SBG.digits n + own_sg x) ≤ (Own.grow cap (xs.length + (Jvm.Free.SBG.digits n + own_sg x))) := Own.grow_ge
  refine Own.W.aloadN (pc := 17) d24_17 rfl rfl ?_
  refine Own.W.callV (pc := 18) (ct_sis G hw hC o b2 _ (List.Mem.head _)) d24_18 (C := "java/lang/StringBuilder") (Own.Is.mem (List.Mem.head _)) (hw _ (List.mem_of_getElem? (i := 180) rfl)) (hw _ (List.mem_of_getElem? (i := 181) rfl)) (Own.nf_sel (hw _ (List.mem_of_getElem? (i := 183) rfl))) (hw _ (List.mem_of_getElem? (i := 183) rfl)) (hw _ (List.mem_of_getElem? (i := 182) rfl)) (hw _ (List.mem_of_getElem? (i := 109) rfl)) (hw _ (List.mem_of_getElem? (i := 184) rfl)) (by decide) pd_93422000 rfl rfl (Nat.le_of_ble_eq_true rfl) (Nat.le_of_ble_eq_true rfl) (by first | exact Nat.le_of_ble_eq_true rfl | (simp; done) | (simp; omega)) (by first | exact Nat.le_of_ble_eq_true rfl | (simp; done) | (simp; omega)) ?_
  rintro _ _ _ ⟨rfl, rfl, rfl⟩
  refine Own.W.if_eq (pc := 21) 37 d24_21 (by decide) (by decide) (fun h21 => absurd h21 (by decide)) ?_
  intro h21
  refine Own.W.iloadN (pc := 24) d24_24 rfl ?_
  refine Own.W.iloadN (pc := 25) d24_25 rfl ?_
  refine Own.W.aloadN (pc := 26) d24_26 rfl rfl ?_
  refine Own.W.getF (pc := 27) (host := "") (Or.inl (hw _ (List.mem_of_getElem? (i := 113) rfl))) (Via.refl (O := "java/lang/AbstractStringBuilder")) d24_27 (by repeat (first | exact List.Mem.head _ | assumption | exact List.mem_append_right _ (List.Mem.head _) | apply List.Mem.tail)) (by repeat (first | exact Own.FAt.head | apply Own.FAt.tail)) ?_
  refine Own.W.callS (pc := 30) (ct_igc G hw hDg x n hn hx _ b2 _ xs.length (by rw [Own.pad_len (by omega)]; omega) (by rw [Own.pad_len (by omega)]; omega)) d24_30 (hw _ (List.mem_of_getElem? (i := 185) rfl)) (hw _ (List.mem_of_getElem? (i := 186) rfl)) (hw _ (List.mem_of_getElem? (i := 178) rfl)) (hw _ (List.mem_of_getElem? (i := 187) rfl)) (by decide) pd_28800014 rfl rfl (Nat.le_of_ble_eq_true rfl) (Nat.le_of_ble_eq_true rfl) (by first | exact Nat.le_of_ble_eq_true rfl | (simp; done) | (simp; omega)) (by first | exact Nat.le_of_ble_eq_true rfl | (simp; done) | (simp; omega)) ?_
  rintro _ _ _ ⟨r, ds, rfl, hds, rfl, rfl⟩
  rw [Own.pad_put (by omega)]
  refine Own.W.pop (pc := 33) d24_33 rfl ?_
  refine Own.W.goto (pc := 34) 48 d24_34 (by decide) (by decide) ?_
  refine Own.W.aloadN (pc := 48) d24_48 rfl rfl ?_
  refine Own.W.iloadN (pc := 49) d24_49 rfl ?_
  rw [show (xs.length + (Jvm.Free.SBG.digits n + own_sg x)).toInt32 = (xs ++ ds).length.toInt32 from by rw [List.length_append, hds]]
  refine Own.W.putF (pc := 50) (host := "") (Or.inl (hw _ (List.mem_of_getElem? (i := 137) rfl))) (Via.refl (O := "java/lang/AbstractStringBuilder")) d24_50 (Or.inl (hw _ (List.mem_of_getElem? (i := 138) rfl))) (hw _ (List.mem_of_getElem? (i := 100) rfl)) (ty := .int) (by decide) rfl rfl (by repeat (first | exact Own.Upd.head | exact Own.Upd.mid | apply Own.Upd.tail)) (by repeat (first | exact Own.FUp.head | apply Own.FUp.tail)) ?_
  refine Own.W.aloadN (pc := 53) d24_53 rfl rfl ?_
  refine Own.W.aret (pc := 54) d24_54 rfl rfl rfl ?_ (by first | exact Nat.le_of_ble_eq_true rfl | (simp; done) | (simp; omega)) (by first | exact Nat.le_of_ble_eq_true rfl | (simp; done) | (simp; omega))
  exact ⟨b2, A0, ds, rfl, hds, rfl, hsub, rfl⟩
theorem d23_0 : decode jdk_67_method_15_code 0 = .ok (.aload_n 0, 1) := by decide +kernel
theorem d23_1 : decode jdk_67_method_15_code 1 = .ok (.iload_n 1, 1) := by decide +kernel
theorem d23_2 : decode jdk_67_method_15_code 2 = .ok (.invokespecial 53, 3) := by decide +kernel
theorem pd_37560154 : parseMethodDescriptor "(I)Ljava/lang/AbstractStringBuilder;" = some ⟨[.int], some (.object "java/lang/AbstractStringBuilder")⟩ := by decide +kernel
theorem d23_5 : decode jdk_67_method_15_code 5 = .ok (.pop, 1) := by decide +kernel
theorem d23_6 : decode jdk_67_method_15_code 6 = .ok (.aload_n 0, 1) := by decide +kernel
theorem d23_7 : decode jdk_67_method_15_code 7 = .ok (.areturn, 1) := by decide +kernel
theorem pn_43313702 : plainFor (⟨"java/lang/StringBuilder", "append", "(I)Ljava/lang/StringBuilder;"⟩ : MethodName) = true := by first | exact plainFor_of_name (by first | (simp [plainName, overriddenIn]; done) | decide +kernel) | decide +kernel
set_option maxRecDepth 65536 in
set_option maxHeartbeats 4000000 in
theorem ct_sai (G : Own.Gx) (hw : ∀ d ∈ tables_1, d.before G.a0 G.Z = true) (hC : Own.CSt G) (hDg : Digs G) {As : List Own.Ent} {Li : List Own.LitE} (o b : Addr) (xs : List Int32) (cap : Nat) (hxc : xs.length ≤ cap) (hcap : cap ≤ 4000) (x : Int32) (n : Nat) (hn : n ≤ 2 ^ 31) (hx : (if x < 0 then x else -x) = Jvm.Free.SBG.negI n) (N : Nat) (hl : xs.length + 11 ≤ 4000) (hN : Own.grow cap (xs.length + (Jvm.Free.SBG.digits n + own_sg x)) ≤ N) (hN4 : N ≤ 4000) :
    Own.Ct G [] (⟨"java/lang/StringBuilder", "append", "(I)Ljava/lang/StringBuilder;"⟩ : MethodName) jdk_67_method_15_code 2 (some (.object "java/lang/StringBuilder")) ({ frames := 5, cells := 1, slots := N, locals := 77 } : Room) [.ref o, .int x] ((o, true, Own.obj "java/lang/StringBuilder" F_java_lang_StringBuilder [.ref b, .int 0, .int xs.length.toInt32]) :: (b, true, Own.arr .byte (Own.pad xs cap)) :: As) Li (fun v A L => ∃ (b2 : Addr) (A0 : List Own.Ent) (ds : List Int32), v = some (.ref o) ∧ ds.length = Jvm.Free.SBG.digits n + own_sg x ∧ A = ((o, true, Own.obj "java/lang/StringBuilder" F_java_lang_StringBuilder [.ref b2, .int 0, .int (xs ++ ds).length.toInt32]) :: (b2, true, Own.arr .byte (Own.pad (xs ++ ds) (Own.grow cap (xs.length + (Jvm.Free.SBG.digits n + own_sg x))))) :: A0) ∧ Own.Sub As A0 ∧ Li = L) := by
  refine Own.Ct.intro pn_43313702 (Ls := [.val (.ref o), .val (.int x)]) rfl rfl ?_
  intro K
  refine Own.W.aloadN (pc := 0) d23_0 rfl rfl ?_
  refine Own.W.iloadN (pc := 1) d23_1 rfl ?_
  refine Own.W.callX (pc := 2) (ct_aai G hw hC hDg o b xs cap hxc hcap x n hn hx N hl hN hN4) d23_2 (C := "java/lang/StringBuilder") (Own.Is.mem (List.Mem.head _)) (hw _ (List.mem_of_getElem? (i := 172) rfl)) (Own.same_of (hw _ (List.mem_of_getElem? (i := 173) rfl)) (hw _ (List.mem_of_getElem? (i := 142) rfl)) rfl (by decide)) (hw _ (List.mem_of_getElem? (i := 173) rfl)) (hw _ (List.mem_of_getElem? (i := 124) rfl)) (by decide) (hw _ (List.mem_of_getElem? (i := 109) rfl)) (hw _ (List.mem_of_getElem? (i := 175) rfl)) pd_37560154 rfl rfl (Nat.le_of_ble_eq_true rfl) (Nat.le_of_ble_eq_true rfl) (by first | exact Nat.le_of_ble_eq_true rfl | (simp; done) | (simp; omega)) (by first | exact Nat.le_of_ble_eq_true rfl | (simp; done) | (simp; omega)) ?_
  rintro _ _ _ ⟨b2, A0, ds, rfl, hds, rfl, hsub, rfl⟩
  refine Own.W.pop (pc := 5) d23_5 rfl ?_
  refine Own.W.aloadN (pc := 6) d23_6 rfl rfl ?_
  refine Own.W.aret (pc := 7) d23_7 rfl rfl rfl ?_ (by first | exact Nat.le_of_ble_eq_true rfl | (simp; done) | (simp; omega)) (by first | exact Nat.le_of_ble_eq_true rfl | (simp; done) | (simp; omega))
  exact ⟨b2, A0, ds, rfl, hds, rfl, hsub, rfl⟩
theorem own_mm_w (G : Own.Gx) (hw : ∀ d ∈ tables_1, d.before G.a0 G.Z = true) : ∀ d ∈ Own.thA "com/example/precedence/precedence/MalformedMemberException", d.before G.a0 G.Z = true := fun d hd => by
  simp only [Own.thA, List.mem_cons, List.not_mem_nil, or_false] at hd
  rcases hd with rfl | rfl | rfl | rfl | rfl | rfl | rfl | rfl | rfl | rfl | rfl | rfl | rfl | rfl | rfl | rfl | rfl | rfl | rfl | rfl | rfl | rfl | rfl | rfl | rfl | rfl | rfl | rfl | rfl | rfl | rfl | rfl | rfl | rfl | rfl | rfl
  · exact (hw _ (List.mem_of_getElem? (i := 45) rfl))
  · exact (hw _ (List.mem_of_getElem? (i := 63) rfl))
  · exact (hw _ (List.mem_of_getElem? (i := 58) rfl))
  · exact (hw _ (List.mem_of_getElem? (i := 64) rfl))
  · exact (hw _ (List.mem_of_getElem? (i := 65) rfl))
  · exact (hw _ (List.mem_of_getElem? (i := 66) rfl))
  · exact (hw _ (List.mem_of_getElem? (i := 67) rfl))
  · exact (hw _ (List.mem_of_getElem? (i := 68) rfl))
  · exact (hw _ (List.mem_of_getElem? (i := 12) rfl))
  · exact (hw _ (List.mem_of_getElem? (i := 13) rfl))
  · exact (hw _ (List.mem_of_getElem? (i := 47) rfl))
  · exact (hw _ (List.mem_of_getElem? (i := 56) rfl))
  · exact (hw _ (List.mem_of_getElem? (i := 69) rfl))
  · exact (hw _ (List.mem_of_getElem? (i := 48) rfl))
  · exact (hw _ (List.mem_of_getElem? (i := 49) rfl))
  · exact (hw _ (List.mem_of_getElem? (i := 51) rfl))
  · exact (hw _ (List.mem_of_getElem? (i := 52) rfl))
  · exact (hw _ (List.mem_of_getElem? (i := 54) rfl))
  · exact (hw _ (List.mem_of_getElem? (i := 55) rfl))
  · exact (hw _ (List.mem_of_getElem? (i := 50) rfl))
  · exact (hw _ (List.mem_of_getElem? (i := 76) rfl))
  · exact (hw _ (List.mem_of_getElem? (i := 53) rfl))
  · exact (hw _ (List.mem_of_getElem? (i := 77) rfl))
  · exact (hw _ (List.mem_of_getElem? (i := 83) rfl))
  · exact (hw _ (List.mem_of_getElem? (i := 79) rfl))
  · exact (hw _ (List.mem_of_getElem? (i := 72) rfl))
  · exact (hw _ (List.mem_of_getElem? (i := 42) rfl))
  · exact (hw _ (List.mem_of_getElem? (i := 46) rfl))
  · exact (hw _ (List.mem_of_getElem? (i := 74) rfl))
  · exact (hw _ (List.mem_of_getElem? (i := 80) rfl))
  · exact (hw _ (List.mem_of_getElem? (i := 81) rfl))
  · exact (hw _ (List.mem_of_getElem? (i := 78) rfl))
  · exact (hw _ (List.mem_of_getElem? (i := 59) rfl))
  · exact (hw _ (List.mem_of_getElem? (i := 60) rfl))
  · exact (hw _ (List.mem_of_getElem? (i := 61) rfl))
  · exact (hw _ (List.mem_of_getElem? (i := 62) rfl))
def own_mm_F : List Own.Fd := [("java/lang/Throwable", "detailMessage", "Ljava/lang/String;"), ("java/lang/Throwable", "cause", "Ljava/lang/Throwable;"), ("com/example/precedence/precedence/MalformedMemberException", "file", "Ljava/nio/file/Path;"), ("com/example/precedence/precedence/MalformedMemberException", "line", "I"), ("com/example/precedence/precedence/MalformedMemberException", "reason", "Ljava/lang/String;")]
theorem own_mm_L (G : Own.Gx) (hw : ∀ d ∈ tables_1, d.before G.a0 G.Z = true) : Own.LaidAll G.Z G.a0 "com/example/precedence/precedence/MalformedMemberException" own_mm_F := ⟨by decide, Own.LaidAll.cons (Or.inl (hw _ (List.mem_of_getElem? (i := 79) rfl))) (t := (.object "java/lang/String")) (by decide) (Own.LaidAll.cons (Or.inl (hw _ (List.mem_of_getElem? (i := 49) rfl))) (t := (.object "java/lang/Throwable")) (by decide) (Own.LaidAll.cons (Or.inr (hw _ (List.mem_of_getElem? (i := 85) rfl))) (t := (.object "java/nio/file/Path")) (by decide) (Own.LaidAll.cons (Or.inr (hw _ (List.mem_of_getElem? (i := 87) rfl))) (t := .int) (by decide) (Own.LaidAll.cons (Or.inr (hw _ (List.mem_of_getElem? (i := 89) rfl))) (t := (.object "java/lang/String")) (by decide) (Own.LaidAll.nil)))))⟩
theorem own_mm_E (a : Addr) (msg : Value) : Own.ExF a msg F_com_example_precedence_precedence_MalformedMemberException [.null, .null, .null, .null, .null, .int 0, .null, .int 0, .null] own_mm_F [msg, .ref a, .null, .int 0, .null] := by
  refine ⟨rfl, fun i f v hf hv => ?_⟩
  match i, hf, hv with
  | 0, hf, hv => cases hf; cases hv; exact Or.inl ⟨rfl, rfl⟩
  | 1, hf, hv => cases hf; cases hv; exact Or.inr (Or.inl ⟨rfl, rfl⟩)
  | 2, hf, hv => cases hf; cases hv; exact Or.inr (Or.inr ⟨(by repeat (first | exact Own.FAt.head | apply Own.FAt.tail)), by decide⟩)
  | 3, hf, hv => cases hf; cases hv; exact Or.inr (Or.inr ⟨(by repeat (first | exact Own.FAt.head | apply Own.FAt.tail)), by decide⟩)
  | 4, hf, hv => cases hf; cases hv; exact Or.inr (Or.inr ⟨(by repeat (first | exact Own.FAt.head | apply Own.FAt.tail)), by decide⟩)
theorem own_mm_names : own_mm_F.map (fun f => f.2.1) = ["detailMessage", "cause", "file", "line", "reason"] := rfl
theorem d8_0 : decode jdk_59_method_2_code 0 = .ok (.aload_n 0, 1) := by decide +kernel
theorem d8_1 : decode jdk_59_method_2_code 1 = .ok (.aload_n 1, 1) := by decide +kernel
theorem d8_2 : decode jdk_59_method_2_code 2 = .ok (.invokespecial 7, 3) := by decide +kernel
theorem d8_5 : decode jdk_59_method_2_code 5 = .ok (.return_, 1) := by decide +kernel
theorem pn_4537203 : plainFor (⟨"java/lang/Exception", "<init>", "(Ljava/lang/String;)V"⟩ : MethodName) = true := by first | exact plainFor_of_name (by first | (simp [plainName, overriddenIn]; done) | decide +kernel) | decide +kernel
set_option maxRecDepth 65536 in
set_option maxHeartbeats 4000000 in
theorem ct_exi (G : Own.Gx) (hw : ∀ d ∈ tables_1, d.before G.a0 G.Z = true) (hnw : G.nw = false) (hst : G.l.stackTraces = true) (hMK : G.Z.vm.MethodsKnown) (hFK : G.Z.vm.FramesKnown G.Z.frames) (vU vN : Value) (hU : Sta G.Z G.Z.heap "java/lang/Throwable" "UNASSIGNED_STACK" "[Ljava/lang/StackTraceElement;" vU) (rU : vU.isRef = true) (nU : vU ≠ .null) (hN : Sta G.Z G.Z.heap "java/lang/Throwable" "SUPPRESSED_SENTINEL" "Ljava/util/List;" vN) (rN : vN.isRef = true) {As : List Own.Ent} {Li : List Own.LitE} (p s : Addr) :
    Own.Ct G [] (⟨"java/lang/Exception", "<init>", "(Ljava/lang/String;)V"⟩ : MethodName) jdk_59_method_2_code 2 none ({ frames := 3, cells := 1, slots := 2752, locals := 42 } : Room) [.ref p, .ref s] ((p, true, Own.obj "com/example/precedence/precedence/MalformedMemberException" F_com_example_precedence_precedence_MalformedMemberException [.null, .null, .null, .null, .null, .int 0, .null, .int 0, .null]) :: As) Li (fun v A L => v = none ∧ A = (p, true, Own.obj "com/example/precedence/precedence/MalformedMemberException" own_mm_F [.ref s, .ref p, .null, .int 0, .null]) :: As ∧ Li = L) := by
  refine Own.Ct.intro pn_4537203 (Ls := [.val (.ref p), .val (.ref s)]) rfl rfl ?_
  intro K
  refine Own.W.aloadN (pc := 0) d8_0 rfl rfl ?_
  refine Own.W.aloadN (pc := 1) d8_1 rfl rfl ?_
  refine Own.W.thr (pc := 2) (fs' := own_mm_F) (vs' := [.ref s, .ref p, .null, .int 0, .null]) hnw hst hMK hFK hU rU nU hN rN (own_mm_w G hw) (hw _ (List.mem_of_getElem? (i := 31) rfl)) d8_2 (hw _ (List.mem_of_getElem? (i := 41) rfl)) Own.Upd.head (by repeat (first | exact Own.FAt.head | apply Own.FAt.tail)) ⟨_, (by repeat (first | exact Own.FAt.head | apply Own.FAt.tail))⟩ ⟨_, (by repeat (first | exact Own.FAt.head | apply Own.FAt.tail))⟩ (own_mm_E _ _) (own_mm_L G hw) rfl (Nat.le_of_ble_eq_true rfl) (Nat.le_of_ble_eq_true rfl) (Nat.le_of_ble_eq_true rfl) (Nat.le_of_ble_eq_true rfl) ?_
  refine Own.W.vret (pc := 5) d8_5 rfl ?_ (Nat.le_of_ble_eq_true rfl) (Nat.le_of_ble_eq_true rfl)
  exact ⟨rfl, rfl, rfl⟩
theorem d7_0 : decode prog_14_method_1_code 0 = .ok (.aload_n 0, 1) := by decide +kernel
theorem d7_1 : decode prog_14_method_1_code 1 = .ok (.aload_n 1, 1) := by decide +kernel
theorem d7_2 : decode prog_14_method_1_code 2 = .ok (.invokespecial 1, 3) := by decide +kernel
theorem d7_5 : decode prog_14_method_1_code 5 = .ok (.aload_n 0, 1) := by decide +kernel
theorem d7_6 : decode prog_14_method_1_code 6 = .ok (.aconst_null, 1) := by decide +kernel
theorem d7_7 : decode prog_14_method_1_code 7 = .ok (.putfield 7, 3) := by decide +kernel
theorem d7_10 : decode prog_14_method_1_code 10 = .ok (.aload_n 0, 1) := by decide +kernel
theorem d7_11 : decode prog_14_method_1_code 11 = .ok (.iconst 0, 1) := by decide +kernel
theorem d7_12 : decode prog_14_method_1_code 12 = .ok (.putfield 13, 3) := by decide +kernel
theorem d7_15 : decode prog_14_method_1_code 15 = .ok (.aload_n 0, 1) := by decide +kernel
theorem d7_16 : decode prog_14_method_1_code 16 = .ok (.aload_n 1, 1) := by decide +kernel
theorem d7_17 : decode prog_14_method_1_code 17 = .ok (.putfield 17, 3) := by decide +kernel
theorem d7_20 : decode prog_14_method_1_code 20 = .ok (.return_, 1) := by decide +kernel
theorem pn_58660035 : plainFor (⟨"com/example/precedence/precedence/MalformedMemberException", "<init>", "(Ljava/lang/String;)V"⟩ : MethodName) = true := by first | exact plainFor_of_name (by first | (simp [plainName, overriddenIn]; done) | decide +kernel) | decide +kernel
set_option maxRecDepth 65536 in
set_option maxHeartbeats 4000000 in
theorem ct_mi1 (G : Own.Gx) (hw : ∀ d ∈ tables_1, d.before G.a0 G.Z = true) (hnw : G.nw = false) (hst : G.l.stackTraces = true) (hMK : G.Z.vm.MethodsKnown) (hFK : G.Z.vm.FramesKnown G.Z.frames) (vU vN : Value) (hU : Sta G.Z G.Z.heap "java/lang/Throwable" "UNASSIGNED_STACK" "[Ljava/lang/StackTraceElement;" vU) (rU : vU.isRef = true) (nU : vU ≠ .null) (hN : Sta G.Z G.Z.heap "java/lang/Throwable" "SUPPRESSED_SENTINEL" "Ljava/util/List;" vN) (rN : vN.isRef = true) {As : List Own.Ent} {Li : List Own.LitE} (p s : Addr) :
    Own.Ct G [] (⟨"com/example/precedence/precedence/MalformedMemberException", "<init>", "(Ljava/lang/String;)V"⟩ : MethodName) prog_14_method_1_code 2 none ({ frames := 4, cells := 1, slots := 2752, locals := 55 } : Room) [.ref p, .ref s] ((p, true, Own.obj "com/example/precedence/precedence/MalformedMemberException" F_com_example_precedence_precedence_MalformedMemberException [.null, .null, .null, .null, .null, .int 0, .null, .int 0, .null]) :: As) Li (fun v A L => v = none ∧ A = (p, true, Own.obj "com/example/precedence/precedence/MalformedMemberException" own_mm_F [.ref s, .ref p, .null, .int 0, .ref s]) :: As ∧ Li = L) := by
  refine Own.Ct.intro pn_58660035 (Ls := [.val (.ref p), .val (.ref s)]) rfl rfl ?_
  intro K
  refine Own.W.aloadN (pc := 0) d7_0 rfl rfl ?_
  refine Own.W.aloadN (pc := 1) d7_1 rfl rfl ?_
  refine Own.W.callI (pc := 2) (ct_exi G hw hnw hst hMK hFK vU vN hU rU nU hN rN p s) d7_2 rfl (hw _ (List.mem_of_getElem? (i := 36) rfl)) (hw _ (List.mem_of_getElem? (i := 37) rfl)) (hw _ (List.mem_of_getElem? (i := 39) rfl)) (hw _ (List.mem_of_getElem? (i := 40) rfl)) (by decide) pd_62450860 rfl rfl (Nat.le_of_ble_eq_true rfl) (Nat.le_of_ble_eq_true rfl) (Nat.le_of_ble_eq_true rfl) (Nat.le_of_ble_eq_true rfl) ?_
  rintro _ _ _ ⟨rfl, rfl, rfl⟩
  refine Own.W.aloadN (pc := 5) d7_5 rfl rfl ?_
  refine Own.W.aconstNull (pc := 6) d7_6 ?_
  refine Own.W.putF (pc := 7) (host := "") (Or.inl (hw _ (List.mem_of_getElem? (i := 84) rfl))) (Via.refl (O := "com/example/precedence/precedence/MalformedMemberException")) d7_7 (Or.inr ⟨(hw _ (List.mem_of_getElem? (i := 85) rfl)), rfl, rfl⟩) (hw _ (List.mem_of_getElem? (i := 31) rfl)) (ty := (.object "java/nio/file/Path")) (by decide) rfl rfl (by repeat (first | exact Own.Upd.head | exact Own.Upd.mid | apply Own.Upd.tail)) (by repeat (first | exact Own.FUp.head | apply Own.FUp.tail)) ?_
  refine Own.W.aloadN (pc := 10) d7_10 rfl rfl ?_
  refine Own.W.iconst (pc := 11) (z := (0 : Int32)) d7_11 (by decide) ?_
  refine Own.W.putF (pc := 12) (host := "") (Or.inl (hw _ (List.mem_of_getElem? (i := 86) rfl))) (Via.refl (O := "com/example/precedence/precedence/MalformedMemberException")) d7_12 (Or.inr ⟨(hw _ (List.mem_of_getElem? (i := 87) rfl)), rfl, rfl⟩) (hw _ (List.mem_of_getElem? (i := 31) rfl)) (ty := .int) (by decide) rfl rfl (by repeat (first | exact Own.Upd.head | exact Own.Upd.mid | apply Own.Upd.tail)) (by repeat (first | exact Own.FUp.head | apply Own.FUp.tail)) ?_
  refine Own.W.aloadN (pc := 15) d7_15 rfl rfl ?_
  refine Own.W.aloadN (pc := 16) d7_16 rfl rfl ?_
  refine Own.W.putF (pc := 17) (host := "") (Or.inl (hw _ (List.mem_of_getElem? (i := 88) rfl))) (Via.refl (O := "com/example/precedence/precedence/MalformedMemberException")) d7_17 (Or.inr ⟨(hw _ (List.mem_of_getElem? (i := 89) rfl)), rfl, rfl⟩) (hw _ (List.mem_of_getElem? (i := 31) rfl)) (ty := (.object "java/lang/String")) (by decide) rfl rfl (by repeat (first | exact Own.Upd.head | exact Own.Upd.mid | apply Own.Upd.tail)) (by repeat (first | exact Own.FUp.head | apply Own.FUp.tail)) ?_
  refine Own.W.vret (pc := 20) d7_20 rfl ?_ (Nat.le_of_ble_eq_true rfl) (Nat.le_of_ble_eq_true rfl)
  exact ⟨rfl, rfl, rfl⟩
theorem d12_0 : decode prog_14_method_2_code 0 = .ok (.aload_n 0, 1) := by decide +kernel
theorem d12_1 : decode prog_14_method_2_code 1 = .ok (.new 21, 3) := by decide +kernel
theorem d12_4 : decode prog_14_method_2_code 4 = .ok (.dup, 1) := by decide +kernel
theorem d12_5 : decode prog_14_method_2_code 5 = .ok (.invokespecial 23, 3) := by decide +kernel
theorem pd_93421996 : parseMethodDescriptor "()V" = some ⟨[], none⟩ := by decide +kernel
theorem d12_8 : decode prog_14_method_2_code 8 = .ok (.aload_n 2, 1) := by decide +kernel
theorem d12_9 : decode prog_14_method_2_code 9 = .ok (.invokevirtual 26, 3) := by decide +kernel
theorem pd_35207773 : parseMethodDescriptor "(Ljava/lang/String;)Ljava/lang/StringBuilder;" = some ⟨[(.object "java/lang/String")], some (.object "java/lang/StringBuilder")⟩ := by decide +kernel
theorem d12_12 : decode prog_14_method_2_code 12 = .ok (.ldc 30, 2) := by decide +kernel
theorem d12_14 : decode prog_14_method_2_code 14 = .ok (.invokevirtual 26, 3) := by decide +kernel
theorem d12_17 : decode prog_14_method_2_code 17 = .ok (.iload_n 3, 1) := by decide +kernel
theorem d12_18 : decode prog_14_method_2_code 18 = .ok (.invokevirtual 32, 3) := by decide +kernel
theorem pd_35260294 : parseMethodDescriptor "(I)Ljava/lang/StringBuilder;" = some ⟨[.int], some (.object "java/lang/StringBuilder")⟩ := by decide +kernel
theorem d12_21 : decode prog_14_method_2_code 21 = .ok (.ldc 35, 2) := by decide +kernel
theorem d12_23 : decode prog_14_method_2_code 23 = .ok (.invokevirtual 26, 3) := by decide +kernel
theorem d12_26 : decode prog_14_method_2_code 26 = .ok (.aload 4, 2) := by decide +kernel
theorem d12_28 : decode prog_14_method_2_code 28 = .ok (.invokevirtual 26, 3) := by decide +kernel
theorem d12_31 : decode prog_14_method_2_code 31 = .ok (.invokevirtual 37, 3) := by decide +kernel
theorem pd_47462102 : parseMethodDescriptor "()Ljava/lang/String;" = some ⟨[], some (.object "java/lang/String")⟩ := by decide +kernel
theorem d12_34 : decode prog_14_method_2_code 34 = .ok (.invokespecial 1, 3) := by decide +kernel
theorem d12_37 : decode prog_14_method_2_code 37 = .ok (.aload_n 0, 1) := by decide +kernel
theorem d12_38 : decode prog_14_method_2_code 38 = .ok (.aload_n 1, 1) := by decide +kernel
theorem d12_39 : decode prog_14_method_2_code 39 = .ok (.putfield 7, 3) := by decide +kernel
theorem d12_42 : decode prog_14_method_2_code 42 = .ok (.aload_n 0, 1) := by decide +kernel
theorem d12_43 : decode prog_14_method_2_code 43 = .ok (.iload_n 3, 1) := by decide +kernel
theorem d12_44 : decode prog_14_method_2_code 44 = .ok (.putfield 13, 3) := by decide +kernel
theorem d12_47 : decode prog_14_method_2_code 47 = .ok (.aload_n 0, 1) := by decide +kernel
theorem d12_48 : decode prog_14_method_2_code 48 = .ok (.aload 4, 2) := by decide +kernel
theorem d12_50 : decode prog_14_method_2_code 50 = .ok (.putfield 17, 3) := by decide +kernel
theorem d12_53 : decode prog_14_method_2_code 53 = .ok (.return_, 1) := by decide +kernel
theorem pn_81643637 : plainFor (⟨"com/example/precedence/precedence/MalformedMemberException", "<init>", "(Ljava/nio/file/Path;Ljava/lang/String;ILjava/lang/String;)V"⟩ : MethodName) = true := by first | exact plainFor_of_name (by first | (simp [plainName, overriddenIn]; done) | decide +kernel) | decide +kernel
set_option maxRecDepth 65536 in
set_option maxHeartbeats 4000000 in
theorem ct_mi4 (G : Own.Gx) (hw : ∀ d ∈ tables_1, d.before G.a0 G.Z = true) (hC : Own.CSt G) (hnw : G.nw = false) (wS : ∀ a ∈ Bundle.stringAtoms, a.before G.a0 G.Z = true) (hcw : Jvm.Lit.compactW.before G.a0 G.Z = true) (hhm30 : Jvm.Lit.constHeld G.Z "com/example/precedence/precedence/MalformedMemberException" 30) (hhm35 : Jvm.Lit.constHeld G.Z "com/example/precedence/precedence/MalformedMemberException" 35) (hst : G.l.stackTraces = true) (hMK : G.Z.vm.MethodsKnown) (hFK : G.Z.vm.FramesKnown G.Z.frames) (vU vN : Value) (hU : Sta G.Z G.Z.heap "java/lang/Throwable" "UNASSIGNED_STACK" "[Ljava/lang/StackTraceElement;" vU) (rU : vU.isRef = true) (nU : vU ≠ .null) (hN : Sta G.Z G.Z.heap "java/lang/Throwable" "SUPPRESSED_SENTINEL" "Ljava/util/List;" vN) (rN : vN.isRef = true) (hDg : Digs G) {As : List Own.Ent} {Li : List Own.LitE} (p nm rs : Addr) (x : Int32) (ns rr : List Int32) (hns : ns.length = 2) (hrr : rr.length = 2) (sn : Own.StrF As nm (ns.map Value.int)) (sr : Own.StrF As rs (rr.map Value.int)) (hA : Own.LA As Li) :
    Own.Ct G [] (⟨"com/example/precedence/precedence/MalformedMemberException", "<init>", "(Ljava/nio/file/Path;Ljava/lang/String;ILjava/lang/String;)V"⟩ : MethodName) prog_14_method_2_code 5 none ({ frames := 6, cells := 30, slots := 6000, locals := 92 } : Room) [.ref p, .null, .ref nm, .int x, .ref rs] ((p, true, Own.obj "com/example/precedence/precedence/MalformedMemberException" F_com_example_precedence_precedence_MalformedMemberException [.null, .null, .null, .null, .null, .int 0, .null, .int 0, .null]) :: As) Li (fun v A L => ∃ z A0, v = none ∧ A = (p, true, Own.obj "com/example/precedence/precedence/MalformedMemberException" own_mm_F [.ref z, .ref p, .null, .int x, .ref rs]) :: A0 ∧ Own.Stay As A0 ∧ Own.LA A0 L) := by
  refine Own.Ct.intro pn_81643637 (Ls := [.val (.ref p), .val (.null), .val (.ref nm), .val (.int x), .val (.ref rs)]) rfl rfl ?_
  intro K
  obtain ⟨n, hn, hx⟩ := Jvm.Free.SBG.negI_of x
  have l1 : (Own.txb ":").length = 1 := by decide +kernel
  have l2 : (Own.txb ": ").length = 2 := by decide +kernel
  have hk := Jvm.Free.SBG.digits_pos n
  have hsg : own_sg x ≤ 1 := by unfold own_sg; split <;> omega
  have q : Own.Sub As As := Own.Sub.refl _
  refine Own.W.aloadN (pc := 0) d12_0 rfl rfl ?_
  replace sn := sn.sub (Own.Sub.cons (e := (p, true, Own.obj "com/example/precedence/precedence/MalformedMemberException" F_com_example_precedence_precedence_MalformedMemberException [.null, .null, .null, .null, .null, .int 0, .null, .int 0, .null])) (Own.Sub.refl _))
  replace sr := sr.sub (Own.Sub.cons (e := (p, true, Own.obj "com/example/precedence/precedence/MalformedMemberException" F_com_example_precedence_precedence_MalformedMemberException [.null, .null, .null, .null, .null, .int 0, .null, .int 0, .null])) (Own.Sub.refl _))
  replace hA := hA.cons1 (e := (p, true, Own.obj "com/example/precedence/precedence/MalformedMemberException" F_com_example_precedence_precedence_MalformedMemberException [.null, .null, .null, .null, .null, .int 0, .null, .int 0, .null]))
  replace q : Own.Sub ((p, true, Own.obj "com/example/precedence/precedence/MalformedMemberException" F_com_example_precedence_precedence_MalformedMemberException [.null, .null, .null, .null, .null, .int 0, .null, .int 0, .null]) :: As) ((p, true, Own.obj "com/example/precedence/precedence/MalformedMemberException" F_com_example_precedence_precedence_MalformedMemberException [.null, .null, .null, .null, .null, .int 0, .null, .int 0, .null]) :: As) := Own.Sub.refl _
  refine Own.W.new (pc := 1) (hw _ (List.mem_of_getElem? (i := 99) rfl)) (hw _ (List.mem_of_getElem? (i := 100) rfl)) (hw _ (List.mem_of_getElem? (i := 101) rfl)) d12_1 (LF_java_lang_StringBuilder G hw) (vs := [.null, .int 0, .int 0]) (by decide) (Nat.le_of_ble_eq_true rfl) (Nat.le_of_ble_eq_true rfl) ?_
  intro o1
  refine Own.W.dup (pc := 4) d12_4 rfl ?_
  refine Own.W.callI (pc := 5) (ct_sbi G hw hC o1) d12_5 rfl (hw _ (List.mem_of_getElem? (i := 102) rfl)) (hw _ (List.mem_of_getElem? (i := 103) rfl)) (hw _ (List.mem_of_getElem? (i := 101) rfl)) (hw _ (List.mem_of_getElem? (i := 104) rfl)) (by decide) pd_93421996 rfl rfl (Nat.le_of_ble_eq_true rfl) (Nat.le_of_ble_eq_true rfl) (Nat.le_of_ble_eq_true rfl) (Nat.le_of_ble_eq_true rfl) ?_
  rintro _ _ _ ⟨b5, rfl, rfl, rfl⟩
  obtain ⟨X0, hX0⟩ : ∃ Y, Y = ([] : List Int32) := ⟨_, rfl⟩
  rw [← hX0]
  have hl0 : X0.length = 0 := by rw [hX0]; rfl
  refine Own.W.aloadN (pc := 8) d12_8 rfl rfl ?_
  refine Own.W.callV (pc := 9) (ct_app G hw hC o1 b5 X0 16 (by omega) (by omega) nm ns sn 16 (by omega) (own_gb (by omega) (by omega)) (by decide)) d12_9 (C := "java/lang/StringBuilder") (Own.Is.mem (by repeat (first | exact List.Mem.head _ | assumption | exact List.mem_append_right _ (List.Mem.head _) | apply List.Mem.tail))) (hw _ (List.mem_of_getElem? (i := 117) rfl)) (hw _ (List.mem_of_getElem? (i := 118) rfl)) (Own.nf_sel (hw _ (List.mem_of_getElem? (i := 120) rfl))) (hw _ (List.mem_of_getElem? (i := 120) rfl)) (hw _ (List.mem_of_getElem? (i := 119) rfl)) (hw _ (List.mem_of_getElem? (i := 101) rfl)) (hw _ (List.mem_of_getElem? (i := 121) rfl)) (by decide) pd_35207773 rfl rfl (Nat.le_of_ble_eq_true rfl) (Nat.le_of_ble_eq_true rfl) (Nat.le_of_ble_eq_true rfl) (by first | exact Nat.le_of_ble_eq_true rfl | (simp; done) | (simp; omega)) ?_
  rintro _ _ _ ⟨b_1, A_1, rfl, rfl, hs_1, rfl⟩
  obtain ⟨X1, hX1⟩ : ∃ Y, Y = X0 ++ ns := ⟨_, rfl⟩
  obtain ⟨c1, hc1⟩ : ∃ d, d = Own.grow 16 (X0.length + ns.length) := ⟨_, rfl⟩
  rw [← hX1, ← hc1]
  have hl1 : X1.length = X0.length + ns.length := by rw [hX1, List.length_append]
  have hb1 : X1.length ≤ c1 ∧ 16 ≤ c1 ∧ c1 ≤ 16 := by
    by_cases hq : X0.length + ns.length ≤ 16
    · rw [hc1, Own.grow_le hq]; omega
    · rw [hc1, Own.grow_gt hq]; omega
  replace sn := sn.sub hs_1
  replace sr := sr.sub hs_1
  replace hA := hA.sub hs_1
  replace q := q.trans hs_1
  refine Own.W.ldcG (pc := 12) (n := 4) (vs := (Own.txb ":").map Value.int) hnw d12_12 (hw _ (List.mem_of_getElem? (i := 164) rfl)) wS hhm30 hcw (hA.cons1.cons1.g _) ⟨by decide +kernel, Own.txb_map _⟩ (by decide +kernel) (by decide) (Nat.le_of_ble_eq_true rfl) (Nat.le_of_ble_eq_true rfl) ?_
  intro a12 b12
  refine Own.W.perm ?_ Own.perm22
  replace sn := sn.sub (own_sl _ a12 b12 ":")
  replace sr := sr.sub (own_sl _ a12 b12 ":")
  replace q := q.trans (own_sl _ a12 b12 ":")
  replace hA := hA.lit (a := a12) (b := b12) (own := "com/example/precedence/precedence/MalformedMemberException") (idx := 30) (text := ":")
  refine Own.W.callV (pc := 14) (ct_app G hw hC o1 b_1 X1 c1 (by omega) (by omega) a12 (Own.txb ":") (Own.StrF.lit (List.Mem.head _) (List.Mem.tail _ (List.Mem.head _))) 16 (by omega) (own_gb (by omega) (by omega)) (by decide)) d12_14 (C := "java/lang/StringBuilder") (Own.Is.mem (by repeat (first | exact List.Mem.head _ | assumption | exact List.mem_append_right _ (List.Mem.head _) | apply List.Mem.tail))) (hw _ (List.mem_of_getElem? (i := 117) rfl)) (hw _ (List.mem_of_getElem? (i := 118) rfl)) (Own.nf_sel (hw _ (List.mem_of_getElem? (i := 120) rfl))) (hw _ (List.mem_of_getElem? (i := 120) rfl)) (hw _ (List.mem_of_getElem? (i := 119) rfl)) (hw _ (List.mem_of_getElem? (i := 101) rfl)) (hw _ (List.mem_of_getElem? (i := 121) rfl)) (by decide) pd_35207773 rfl rfl (Nat.le_of_ble_eq_true rfl) (Nat.le_of_ble_eq_true rfl) (Nat.le_of_ble_eq_true rfl) (by first | exact Nat.le_of_ble_eq_true rfl | (simp; done) | (simp; omega)) ?_
  rintro _ _ _ ⟨b_2, A_2, rfl, rfl, hs_2, rfl⟩
  obtain ⟨X2, hX2⟩ : ∃ Y, Y = X1 ++ (Own.txb ":") := ⟨_, rfl⟩
  obtain ⟨c2, hc2⟩ : ∃ d, d = Own.grow c1 (X1.length + (Own.txb ":").length) := ⟨_, rfl⟩
  rw [← hX2, ← hc2]
  have hl2 : X2.length = X1.length + (Own.txb ":").length := by rw [hX2, List.length_append]
  have hb2 : X2.length ≤ c2 ∧ 16 ≤ c2 ∧ c2 ≤ 16 := by
    by_cases hq : X1.length + (Own.txb ":").length ≤ c1
    · rw [hc2, Own.grow_le hq]; omega
    · rw [hc2, Own.grow_gt hq]; omega
  replace sn := sn.sub hs_2
  replace sr := sr.sub hs_2
  replace hA := hA.sub hs_2
  replace q := q.trans hs_2
  refine Own.W.iloadN (pc := 17) d12_17 rfl ?_
  refine Own.W.callV (pc := 18) (ct_sai G hw hC hDg o1 b_2 X2 c2 (by omega) (by omega) x n hn hx 34 (by omega) (own_gb (by omega) (by omega)) (by decide)) d12_18 (C := "java/lang/StringBuilder") (Own.Is.mem (by repeat (first | exact List.Mem.head _ | assumption | exact List.mem_append_right _ (List.Mem.head _) | apply List.Mem.tail))) (hw _ (List.mem_of_getElem? (i := 167) rfl)) (hw _ (List.mem_of_getElem? (i := 168) rfl)) (Own.nf_sel (hw _ (List.mem_of_getElem? (i := 170) rfl))) (hw _ (List.mem_of_getElem? (i := 170) rfl)) (hw _ (List.mem_of_getElem? (i := 169) rfl)) (hw _ (List.mem_of_getElem? (i := 101) rfl)) (hw _ (List.mem_of_getElem? (i := 171) rfl)) (by decide) pd_35260294 rfl rfl (Nat.le_of_ble_eq_true rfl) (Nat.le_of_ble_eq_true rfl) (Nat.le_of_ble_eq_true rfl) (by first | exact Nat.le_of_ble_eq_true rfl | (simp; done) | (simp; omega)) ?_
  rintro _ _ _ ⟨b_3, A_3, ds, rfl, hds, rfl, hs_3, rfl⟩
  obtain ⟨dx, hdx⟩ : ∃ dx, dx = Jvm.Free.SBG.digits n + own_sg x := ⟨_, rfl⟩
  rw [← hdx] at hds ⊢
  have hd11 : dx ≤ 11 := by omega
  obtain ⟨X3, hX3⟩ : ∃ Y, Y = X2 ++ ds := ⟨_, rfl⟩
  obtain ⟨c3, hc3⟩ : ∃ d, d = Own.grow c2 (X2.length + dx) := ⟨_, rfl⟩
  rw [← hX3, ← hc3]
  have hl3 : X3.length = X2.length + dx := by rw [hX3, List.length_append, hds]
  have hb3 : X3.length ≤ c3 ∧ 16 ≤ c3 ∧ c3 ≤ 34 := by
    by_cases hq : X2.length + dx ≤ c2
    · rw [hc3, Own.grow_le hq]; omega
    · rw [hc3, Own.grow_gt hq]; omega
  replace sn := sn.sub hs_3
  replace sr := sr.sub hs_3
  replace hA := hA.sub hs_3
  replace q := q.trans hs_3
  refine Own.W.ldcG (pc := 21) (n := 8) (vs := (Own.txb ": ").map Value.int) hnw d12_21 (hw _ (List.mem_of_getElem? (i := 189) rfl)) wS hhm35 hcw (hA.cons1.cons1.g _) ⟨by decide +kernel, Own.txb_map _⟩ (by decide +kernel) (by decide) (Nat.le_of_ble_eq_true rfl) (Nat.le_of_ble_eq_true rfl) ?_
  intro a21 b21
  refine Own.W.perm ?_ Own.perm22
  replace sn := sn.sub (own_sl _ a21 b21 ": ")
  replace sr := sr.sub (own_sl _ a21 b21 ": ")
  replace q := q.trans (own_sl _ a21 b21 ": ")
  replace hA := hA.lit (a := a21) (b := b21) (own := "com/example/precedence/precedence/MalformedMemberException") (idx := 35) (text := ": ")
  refine Own.W.callV (pc := 23) (ct_app G hw hC o1 b_3 X3 c3 (by omega) (by omega) a21 (Own.txb ": ") (Own.StrF.lit (List.Mem.head _) (List.Mem.tail _ (List.Mem.head _))) 70 (by omega) (own_gb (by omega) (by omega)) (by decide)) d12_23 (C := "java/lang/StringBuilder") (Own.Is.mem (by repeat (first | exact List.Mem.head _ | assumption | exact List.mem_append_right _ (List.Mem.head _) | apply List.Mem.tail))) (hw _ (List.mem_of_getElem? (i := 117) rfl)) (hw _ (List.mem_of_getElem? (i := 118) rfl)) (Own.nf_sel (hw _ (List.mem_of_getElem? (i := 120) rfl))) (hw _ (List.mem_of_getElem? (i := 120) rfl)) (hw _ (List.mem_of_getElem? (i := 119) rfl)) (hw _ (List.mem_of_getElem? (i := 101) rfl)) (hw _ (List.mem_of_getElem? (i := 121) rfl)) (by decide) pd_35207773 rfl rfl (Nat.le_of_ble_eq_true rfl) (Nat.le_of_ble_eq_true rfl) (Nat.le_of_ble_eq_true rfl) (by first | exact Nat.le_of_ble_eq_true rfl | (simp; done) | (simp; omega)) ?_
  rintro _ _ _ ⟨b_4, A_4, rfl, rfl, hs_4, rfl⟩
  obtain ⟨X4, hX4⟩ : ∃ Y, Y = X3 ++ (Own.txb ": ") := ⟨_, rfl⟩
  obtain ⟨c4, hc4⟩ : ∃ d, d = Own.grow c3 (X3.length + (Own.txb ": ").length) := ⟨_, rfl⟩
  rw [← hX4, ← hc4]
  have hl4 : X4.length = X3.length + (Own.txb ": ").length := by rw [hX4, List.length_append]
  have hb4 : X4.length ≤ c4 ∧ 16 ≤ c4 ∧ c4 ≤ 70 := by
    by_cases hq : X3.length + (Own.txb ": ").length ≤ c3
    · rw [hc4, Own.grow_le hq]; omega
    · rw [hc4, Own.grow_gt hq]; omega
  replace sn := sn.sub hs_4
  replace sr := sr.sub hs_4
  replace hA := hA.sub hs_4
  replace q := q.trans hs_4
  refine Own.W.aload (pc := 26) d12_26 rfl rfl ?_
  refine Own.W.callV (pc := 28) (ct_app G hw hC o1 b_4 X4 c4 (by omega) (by omega) rs rr sr 142 (by omega) (own_gb (by omega) (by omega)) (by decide)) d12_28 (C := "java/lang/StringBuilder") (Own.Is.mem (by repeat (first | exact List.Mem.head _ | assumption | exact List.mem_append_right _ (List.Mem.head _) | apply List.Mem.tail))) (hw _ (List.mem_of_getElem? (i := 117) rfl)) (hw _ (List.mem_of_getElem? (i := 118) rfl)) (Own.nf_sel (hw _ (List.mem_of_getElem? (i := 120) rfl))) (hw _ (List.mem_of_getElem? (i := 120) rfl)) (hw _ (List.mem_of_getElem? (i := 119) rfl)) (hw _ (List.mem_of_getElem? (i := 101) rfl)) (hw _ (List.mem_of_getElem? (i := 121) rfl)) (by decide) pd_35207773 rfl rfl (Nat.le_of_ble_eq_true rfl) (Nat.le_of_ble_eq_true rfl) (Nat.le_of_ble_eq_true rfl) (by first | exact Nat.le_of_ble_eq_true rfl | (simp; done) | (simp; omega)) ?_
  rintro _ _ _ ⟨b_5, A_5, rfl, rfl, hs_5, rfl⟩
  obtain ⟨X5, hX5⟩ : ∃ Y, Y = X4 ++ rr := ⟨_, rfl⟩
  obtain ⟨c5, hc5⟩ : ∃ d, d = Own.grow c4 (X4.length + rr.length) := ⟨_, rfl⟩
  rw [← hX5, ← hc5]
  have hl5 : X5.length = X4.length + rr.length := by rw [hX5, List.length_append]
  have hb5 : X5.length ≤ c5 ∧ 16 ≤ c5 ∧ c5 ≤ 142 := by
    by_cases hq : X4.length + rr.length ≤ c4
    · rw [hc5, Own.grow_le hq]; omega
    · rw [hc5, Own.grow_gt hq]; omega
  replace sn := sn.sub hs_5
  replace sr := sr.sub hs_5
  replace hA := hA.sub hs_5
  replace q := q.trans hs_5
  refine Own.W.callV (pc := 31) (ct_tos G hw hC o1 b_5 X5 c5 (by omega) (by omega) (by omega) 142 (by omega) (by decide)) d12_31 (C := "java/lang/StringBuilder") (Own.Is.mem (by repeat (first | exact List.Mem.head _ | assumption | exact List.mem_append_right _ (List.Mem.head _) | apply List.Mem.tail))) (hw _ (List.mem_of_getElem? (i := 190) rfl)) (hw _ (List.mem_of_getElem? (i := 191) rfl)) (Own.nf_sel (hw _ (List.mem_of_getElem? (i := 193) rfl))) (hw _ (List.mem_of_getElem? (i := 193) rfl)) (hw _ (List.mem_of_getElem? (i := 192) rfl)) (hw _ (List.mem_of_getElem? (i := 101) rfl)) (hw _ (List.mem_of_getElem? (i := 194) rfl)) (by decide) pd_47462102 rfl rfl (Nat.le_of_ble_eq_true rfl) (Nat.le_of_ble_eq_true rfl) (Nat.le_of_ble_eq_true rfl) (by first | exact Nat.le_of_ble_eq_true rfl | (simp; done) | (simp; omega)) ?_
  rintro _ At_31 _ ⟨z, rfl, sz, ht_31, rfl⟩
  replace sn := sn.sub ht_31
  replace sr := sr.sub ht_31
  replace hA := hA.sub ht_31
  replace q := q.trans ht_31
  obtain ⟨p1, p2, hpp⟩ := List.append_of_mem (q _ (List.Mem.head _))
  rw [hpp]
  refine Own.W.perm ?_ List.perm_middle
  have hA2 : Own.LA (p1 ++ p2) _ := hA.stay (fun e he hw => by
    rw [hpp] at he
    rcases List.mem_append.mp he with h | h
    · exact List.mem_append_left _ h
    · rcases List.mem_cons.mp h with rfl | h
      · cases hw
      · exact List.mem_append_right _ h)
  have q2 : Own.Stay As (p1 ++ p2) := fun e he hw => by
    have := q e (List.Mem.tail _ he)
    rw [hpp] at this
    rcases List.mem_append.mp this with h | h
    · exact List.mem_append_left _ h
    · rcases List.mem_cons.mp h with rfl | h
      · cases hw
      · exact List.mem_append_right _ h
  refine Own.W.callI (pc := 34) (ct_exi G hw hnw hst hMK hFK vU vN hU rU nU hN rN p z) d12_34 rfl (hw _ (List.mem_of_getElem? (i := 36) rfl)) (hw _ (List.mem_of_getElem? (i := 37) rfl)) (hw _ (List.mem_of_getElem? (i := 39) rfl)) (hw _ (List.mem_of_getElem? (i := 40) rfl)) (by decide) pd_62450860 rfl rfl (Nat.le_of_ble_eq_true rfl) (Nat.le_of_ble_eq_true rfl) (Nat.le_of_ble_eq_true rfl) (Nat.le_of_ble_eq_true rfl) ?_
  rintro _ _ _ ⟨rfl, rfl, rfl⟩
  refine Own.W.aloadN (pc := 37) d12_37 rfl rfl ?_
  refine Own.W.aloadN (pc := 38) d12_38 rfl rfl ?_
  refine Own.W.putF (pc := 39) (host := "") (Or.inl (hw _ (List.mem_of_getElem? (i := 84) rfl))) (Via.refl (O := "com/example/precedence/precedence/MalformedMemberException")) d12_39 (Or.inr ⟨(hw _ (List.mem_of_getElem? (i := 85) rfl)), rfl, rfl⟩) (hw _ (List.mem_of_getElem? (i := 31) rfl)) (ty := (.object "java/nio/file/Path")) (by decide) rfl rfl (by repeat (first | exact Own.Upd.head | exact Own.Upd.mid | apply Own.Upd.tail)) (by repeat (first | exact Own.FUp.head | apply Own.FUp.tail)) ?_
  refine Own.W.aloadN (pc := 42) d12_42 rfl rfl ?_
  refine Own.W.iloadN (pc := 43) d12_43 rfl ?_
  refine Own.W.putF (pc := 44) (host := "") (Or.inl (hw _ (List.mem_of_getElem? (i := 86) rfl))) (Via.refl (O := "com/example/precedence/precedence/MalformedMemberException")) d12_44 (Or.inr ⟨(hw _ (List.mem_of_getElem? (i := 87) rfl)), rfl, rfl⟩) (hw _ (List.mem_of_getElem? (i := 31) rfl)) (ty := .int) (by decide) rfl rfl (by repeat (first | exact Own.Upd.head | exact Own.Upd.mid | apply Own.Upd.tail)) (by repeat (first | exact Own.FUp.head | apply Own.FUp.tail)) ?_
  refine Own.W.aloadN (pc := 47) d12_47 rfl rfl ?_
  refine Own.W.aload (pc := 48) d12_48 rfl rfl ?_
  refine Own.W.putF (pc := 50) (host := "") (Or.inl (hw _ (List.mem_of_getElem? (i := 88) rfl))) (Via.refl (O := "com/example/precedence/precedence/MalformedMemberException")) d12_50 (Or.inr ⟨(hw _ (List.mem_of_getElem? (i := 89) rfl)), rfl, rfl⟩) (hw _ (List.mem_of_getElem? (i := 31) rfl)) (ty := (.object "java/lang/String")) (by decide) rfl rfl (by repeat (first | exact Own.Upd.head | exact Own.Upd.mid | apply Own.Upd.tail)) (by repeat (first | exact Own.FUp.head | apply Own.FUp.tail)) ?_
  refine Own.W.vret (pc := 53) d12_53 rfl  ?_ (Nat.le_of_ble_eq_true rfl) (Nat.le_of_ble_eq_true rfl)
  exact ⟨z, _, rfl, rfl, q2, hA2⟩
theorem d11_0 : decode prog_14_method_3_code 0 = .ok (.new 8, 3) := by decide +kernel
theorem d11_3 : decode prog_14_method_3_code 3 = .ok (.dup, 1) := by decide +kernel
theorem d11_4 : decode prog_14_method_3_code 4 = .ok (.aload_n 1, 1) := by decide +kernel
theorem d11_5 : decode prog_14_method_3_code 5 = .ok (.aload_n 2, 1) := by decide +kernel
theorem d11_6 : decode prog_14_method_3_code 6 = .ok (.iload_n 3, 1) := by decide +kernel
theorem d11_7 : decode prog_14_method_3_code 7 = .ok (.aload_n 0, 1) := by decide +kernel
theorem d11_8 : decode prog_14_method_3_code 8 = .ok (.getfield 17, 3) := by decide +kernel
theorem d11_11 : decode prog_14_method_3_code 11 = .ok (.invokespecial 41, 3) := by decide +kernel
theorem pd_41391934 : parseMethodDescriptor "(Ljava/nio/file/Path;Ljava/lang/String;ILjava/lang/String;)V" = some ⟨[(.object "java/nio/file/Path"), (.object "java/lang/String"), .int, (.object "java/lang/String")], none⟩ := by decide +kernel
theorem d11_14 : decode prog_14_method_3_code 14 = .ok (.areturn, 1) := by decide +kernel
theorem pn_71319694 : plainFor (⟨"com/example/precedence/precedence/MalformedMemberException", "at", "(Ljava/nio/file/Path;Ljava/lang/String;I)Lcom/example/precedence/precedence/MalformedMemberException;"⟩ : MethodName) = true := by first | exact plainFor_of_name (by first | (simp [plainName, overriddenIn]; done) | decide +kernel) | decide +kernel
set_option maxRecDepth 65536 in
set_option maxHeartbeats 4000000 in
theorem ct_at (G : Own.Gx) (hw : ∀ d ∈ tables_1, d.before G.a0 G.Z = true) (hC : Own.CSt G) (hnw : G.nw = false) (wS : ∀ a ∈ Bundle.stringAtoms, a.before G.a0 G.Z = true) (hcw : Jvm.Lit.compactW.before G.a0 G.Z = true) (hhm30 : Jvm.Lit.constHeld G.Z "com/example/precedence/precedence/MalformedMemberException" 30) (hhm35 : Jvm.Lit.constHeld G.Z "com/example/precedence/precedence/MalformedMemberException" 35) (hst : G.l.stackTraces = true) (hMK : G.Z.vm.MethodsKnown) (hFK : G.Z.vm.FramesKnown G.Z.frames) (vU vN : Value) (hU : Sta G.Z G.Z.heap "java/lang/Throwable" "UNASSIGNED_STACK" "[Ljava/lang/StackTraceElement;" vU) (rU : vU.isRef = true) (nU : vU ≠ .null) (hN : Sta G.Z G.Z.heap "java/lang/Throwable" "SUPPRESSED_SENTINEL" "Ljava/util/List;" vN) (rN : vN.isRef = true) (hDg : Digs G) {As : List Own.Ent} {Li : List Own.LitE} (p nm rs : Addr) (x y : Int32) (v0 : Value) (ns rr : List Int32) (hns : ns.length = 2) (hrr : rr.length = 2) (sn : Own.StrF As nm (ns.map Value.int)) (sr : Own.StrF As rs (rr.map Value.int)) (hA : Own.LA As Li) (hp : (p, false, Own.obj "com/example/precedence/precedence/MalformedMemberException" own_mm_F [v0, .ref p, .null, .int y, .ref rs]) ∈ As) :
    Own.Ct G [] (⟨"com/example/precedence/precedence/MalformedMemberException", "at", "(Ljava/nio/file/Path;Ljava/lang/String;I)Lcom/example/precedence/precedence/MalformedMemberException;"⟩ : MethodName) prog_14_method_3_code 4 (some (.object "com/example/precedence/precedence/MalformedMemberException")) ({ frames := 7, cells := 31, slots := 6009, locals := 109 } : Room) [.ref p, .null, .ref nm, .int x] As Li (fun v A L => ∃ o z, v = some (.ref o) ∧ (o, false, Own.obj "com/example/precedence/precedence/MalformedMemberException" own_mm_F [.ref z, .ref o, .null, .int x, .ref rs]) ∈ A ∧ Own.Stay As A) := by
  refine Own.Ct.intro pn_71319694 (Ls := [.val (.ref p), .val (.null), .val (.ref nm), .val (.int x)]) rfl rfl ?_
  intro K
  refine Own.W.new (pc := 0) (hw _ (List.mem_of_getElem? (i := 95) rfl)) (hw _ (List.mem_of_getElem? (i := 31) rfl)) (hw _ (List.mem_of_getElem? (i := 32) rfl)) d11_0 (LF_com_example_precedence_precedence_MalformedMemberException G hw) (vs := [.null, .null, .null, .null, .null, .int 0, .null, .int 0, .null]) (by decide) (Nat.le_of_ble_eq_true rfl) (Nat.le_of_ble_eq_true rfl) ?_
  intro o0
  refine Own.W.dup (pc := 3) d11_3 rfl ?_
  refine Own.W.aloadN (pc := 4) d11_4 rfl rfl ?_
  refine Own.W.aloadN (pc := 5) d11_5 rfl rfl ?_
  refine Own.W.iloadN (pc := 6) d11_6 rfl ?_
  refine Own.W.aloadN (pc := 7) d11_7 rfl rfl ?_
  refine Own.W.getF (pc := 8) (host := "") (Or.inl (hw _ (List.mem_of_getElem? (i := 88) rfl))) (Via.refl (O := "com/example/precedence/precedence/MalformedMemberException")) d11_8 (List.Mem.tail _ hp) (by repeat (first | exact Own.FAt.head | apply Own.FAt.tail)) ?_
  refine Own.W.callI (pc := 11) (ct_mi4 G hw hC hnw wS hcw hhm30 hhm35 hst hMK hFK vU vN hU rU nU hN rN hDg o0 nm rs x ns rr hns hrr sn sr hA) d11_11 rfl (hw _ (List.mem_of_getElem? (i := 96) rfl)) (hw _ (List.mem_of_getElem? (i := 97) rfl)) (hw _ (List.mem_of_getElem? (i := 32) rfl)) (hw _ (List.mem_of_getElem? (i := 98) rfl)) (by decide) pd_41391934 rfl rfl (Nat.le_of_ble_eq_true rfl) (Nat.le_of_ble_eq_true rfl) (Nat.le_of_ble_eq_true rfl) (Nat.le_of_ble_eq_true rfl) ?_
  rintro _ _ L1 ⟨z, A0, rfl, rfl, q1, q2⟩
  refine Own.W.frz Own.Frz.head ?_
  refine Own.W.aret (pc := 14) d11_14 rfl rfl rfl ?_ (Nat.le_of_ble_eq_true rfl) (Nat.le_of_ble_eq_true rfl)
  exact ⟨_, z, rfl, List.Mem.head _, fun e he hw => List.Mem.tail _ (q1 e he hw)⟩
def OptE (G : Own.Gx) (em : Addr) : Prop := Sta G.Z G.Z.heap "java/util/Optional" "EMPTY" "Ljava/util/Optional;" (.ref em) ∧ Exa G.Z G.Z.heap em "java/util/Optional" ∧ Fld G.Z G.Z.heap em "java/util/Optional" "value" "Ljava/lang/Object;" .null
def OptI (G : Own.Gx) (ei : Addr) : Prop := Sta G.Z G.Z.heap "java/util/OptionalInt" "EMPTY" "Ljava/util/OptionalInt;" (.ref ei) ∧ Exa G.Z G.Z.heap ei "java/util/OptionalInt" ∧ Fld G.Z G.Z.heap ei "java/util/OptionalInt" "isPresent" "Z" (.int 0)
def Q1 : Own.Qx := fun v _ _ => v = some (.int 1)
theorem d39_0 : decode jdk_2649_method_2_code 0 = .ok (.getstatic 17, 3) := by decide +kernel
theorem d39_3 : decode jdk_2649_method_2_code 3 = .ok (.areturn, 1) := by decide +kernel
theorem pn_51750738 : plainFor (⟨"java/util/OptionalInt", "empty", "()Ljava/util/OptionalInt;"⟩ : MethodName) = true := by first | exact plainFor_of_name (by first | (simp [plainName, overriddenIn]; done) | decide +kernel) | decide +kernel
set_option maxRecDepth 65536 in
set_option maxHeartbeats 4000000 in
theorem ct_oie (G : Own.Gx) (hw : ∀ d ∈ tables_1, d.before G.a0 G.Z = true) (em ei : Addr) (hO : OptE G em) (hI : OptI G ei) {As : List Own.Ent} {Li : List Own.LitE} :
    Own.Ct G [] (⟨"java/util/OptionalInt", "empty", "()Ljava/util/OptionalInt;"⟩ : MethodName) jdk_2649_method_2_code 0 (some (.object "java/util/OptionalInt")) ({ frames := 0, cells := 0, slots := 0, locals := 0 } : Room) [] As Li (fun v A L => v = some (.ref ei) ∧ As = A ∧ Li = L) := by
  refine Own.Ct.intro pn_51750738 (Ls := []) rfl rfl ?_
  intro K
  refine Own.W.getS (pc := 0) (host := "") (Or.inl (hw _ (List.mem_of_getElem? (i := 240) rfl))) (Via.refl (O := "java/util/OptionalInt")) d39_0 hI.1 ?_
  refine Own.W.aret (pc := 3) d39_3 rfl rfl rfl ?_ (Nat.le_of_ble_eq_true rfl) (Nat.le_of_ble_eq_true rfl)
  exact ⟨rfl, rfl, rfl⟩
theorem d43_0 : decode jdk_2649_method_6_code 0 = .ok (.aload_n 0, 1) := by decide +kernel
theorem d43_1 : decode jdk_2649_method_6_code 1 = .ok (.getfield 7, 3) := by decide +kernel
theorem d43_4 : decode jdk_2649_method_6_code 4 = .ok (.ireturn, 1) := by decide +kernel
theorem pn_74921476 : plainFor (⟨"java/util/OptionalInt", "isPresent", "()Z"⟩ : MethodName) = true := by first | exact plainFor_of_name (by first | (simp [plainName, overriddenIn]; done) | decide +kernel) | decide +kernel
set_option maxRecDepth 65536 in
set_option maxHeartbeats 4000000 in
theorem ct_oip (G : Own.Gx) (hw : ∀ d ∈ tables_1, d.before G.a0 G.Z = true) (em ei : Addr) (hO : OptE G em) (hI : OptI G ei) {As : List Own.Ent} {Li : List Own.LitE} :
    Own.Ct G [] (⟨"java/util/OptionalInt", "isPresent", "()Z"⟩ : MethodName) jdk_2649_method_6_code 1 (some .boolean) ({ frames := 0, cells := 0, slots := 0, locals := 0 } : Room) [.ref ei] As Li (fun v A L => v = some (.int 0) ∧ As = A ∧ Li = L) := by
  refine Own.Ct.intro pn_74921476 (Ls := [.val (.ref ei)]) rfl rfl ?_
  intro K
  refine Own.W.aloadN (pc := 0) d43_0 rfl rfl ?_
  refine Own.W.getFo (pc := 1) (host := "") (Or.inl (hw _ (List.mem_of_getElem? (i := 263) rfl))) (Via.refl (O := "java/util/OptionalInt")) d43_1 hI.2.2 ?_
  refine Own.W.iret (pc := 4) d43_4 rfl (by simp) (by first | rfl | decide) ?_ (Nat.le_of_ble_eq_true rfl) (Nat.le_of_ble_eq_true rfl)
  exact ⟨rfl, rfl, rfl⟩
theorem d41_0 : decode jdk_32_method_4_code 0 = .ok (.aload_n 0, 1) := by decide +kernel
theorem d41_1 : decode jdk_32_method_4_code 1 = .ok (.ifnonnull 9, 3) := by decide +kernel
theorem d41_4 : decode jdk_32_method_4_code 4 = .ok (.getstatic 1, 3) := by decide +kernel
theorem d41_7 : decode jdk_32_method_4_code 7 = .ok (.goto 11, 3) := by decide +kernel
theorem d41_18 : decode jdk_32_method_4_code 18 = .ok (.areturn, 1) := by decide +kernel
theorem pn_20025681 : plainFor (⟨"java/util/Optional", "ofNullable", "(Ljava/lang/Object;)Ljava/util/Optional;"⟩ : MethodName) = true := by first | exact plainFor_of_name (by first | (simp [plainName, overriddenIn]; done) | decide +kernel) | decide +kernel
set_option maxRecDepth 65536 in
set_option maxHeartbeats 4000000 in
theorem ct_onu (G : Own.Gx) (hw : ∀ d ∈ tables_1, d.before G.a0 G.Z = true) (em ei : Addr) (hO : OptE G em) (hI : OptI G ei) {As : List Own.Ent} {Li : List Own.LitE} :
    Own.Ct G [] (⟨"java/util/Optional", "ofNullable", "(Ljava/lang/Object;)Ljava/util/Optional;"⟩ : MethodName) jdk_32_method_4_code 1 (some (.object "java/util/Optional")) ({ frames := 0, cells := 0, slots := 0, locals := 0 } : Room) [.null] As Li (fun v A L => v = some (.ref em) ∧ As = A ∧ Li = L) := by
  refine Own.Ct.intro pn_20025681 (Ls := [.val (.null)]) rfl rfl ?_
  intro K
  refine Own.W.aloadN (pc := 0) d41_0 rfl rfl ?_
  refine Own.W.nonnullN (pc := 1) d41_1 ?_
  refine Own.W.getS (pc := 4) (host := "") (Or.inl (hw _ (List.mem_of_getElem? (i := 250) rfl))) (Via.refl (O := "java/util/Optional")) d41_4 hO.1 ?_
  refine Own.W.goto (pc := 7) 18 d41_7 (by decide) (by decide) ?_
  refine Own.W.aret (pc := 18) d41_18 rfl rfl rfl ?_ (Nat.le_of_ble_eq_true rfl) (Nat.le_of_ble_eq_true rfl)
  exact ⟨rfl, rfl, rfl⟩
theorem d42_0 : decode jdk_32_method_6_code 0 = .ok (.aload_n 0, 1) := by decide +kernel
theorem d42_1 : decode jdk_32_method_6_code 1 = .ok (.getfield 13, 3) := by decide +kernel
theorem d42_4 : decode jdk_32_method_6_code 4 = .ok (.ifnull 7, 3) := by decide +kernel
theorem d42_11 : decode jdk_32_method_6_code 11 = .ok (.iconst 0, 1) := by decide +kernel
theorem d42_12 : decode jdk_32_method_6_code 12 = .ok (.ireturn, 1) := by decide +kernel
theorem pn_890169 : plainFor (⟨"java/util/Optional", "isPresent", "()Z"⟩ : MethodName) = true := by first | exact plainFor_of_name (by first | (simp [plainName, overriddenIn]; done) | decide +kernel) | decide +kernel
set_option maxRecDepth 65536 in
set_option maxHeartbeats 4000000 in
theorem ct_opr (G : Own.Gx) (hw : ∀ d ∈ tables_1, d.before G.a0 G.Z = true) (em ei : Addr) (hO : OptE G em) (hI : OptI G ei) {As : List Own.Ent} {Li : List Own.LitE} :
    Own.Ct G [] (⟨"java/util/Optional", "isPresent", "()Z"⟩ : MethodName) jdk_32_method_6_code 1 (some .boolean) ({ frames := 0, cells := 0, slots := 0, locals := 0 } : Room) [.ref em] As Li (fun v A L => v = some (.int 0) ∧ As = A ∧ Li = L) := by
  refine Own.Ct.intro pn_890169 (Ls := [.val (.ref em)]) rfl rfl ?_
  intro K
  refine Own.W.aloadN (pc := 0) d42_0 rfl rfl ?_
  refine Own.W.getFo (pc := 1) (host := "") (Or.inl (hw _ (List.mem_of_getElem? (i := 256) rfl))) (Via.refl (O := "java/util/Optional")) d42_1 hO.2.2 ?_
  refine Own.W.nullY (pc := 4) 11 d42_4 (by decide) (by decide) ?_
  refine Own.W.iconst (pc := 11) (z := (0 : Int32)) d42_11 (by decide) ?_
  refine Own.W.iret (pc := 12) d42_12 rfl (by simp) (by first | rfl | decide) ?_ (Nat.le_of_ble_eq_true rfl) (Nat.le_of_ble_eq_true rfl)
  exact ⟨rfl, rfl, rfl⟩
theorem d38_0 : decode prog_14_method_5_code 0 = .ok (.aload_n 0, 1) := by decide +kernel
theorem d38_1 : decode prog_14_method_5_code 1 = .ok (.getfield 7, 3) := by decide +kernel
theorem d38_4 : decode prog_14_method_5_code 4 = .ok (.ifnonnull 9, 3) := by decide +kernel
theorem d38_7 : decode prog_14_method_5_code 7 = .ok (.invokestatic 50, 3) := by decide +kernel
theorem pd_71833004 : parseMethodDescriptor "()Ljava/util/OptionalInt;" = some ⟨[], some (.object "java/util/OptionalInt")⟩ := by decide +kernel
theorem d38_10 : decode prog_14_method_5_code 10 = .ok (.goto 10, 3) := by decide +kernel
theorem d38_20 : decode prog_14_method_5_code 20 = .ok (.areturn, 1) := by decide +kernel
theorem pn_9023933 : plainFor (⟨"com/example/precedence/precedence/MalformedMemberException", "line", "()Ljava/util/OptionalInt;"⟩ : MethodName) = true := by first | exact plainFor_of_name (by first | (simp [plainName, overriddenIn]; done) | decide +kernel) | decide +kernel
set_option maxRecDepth 65536 in
set_option maxHeartbeats 4000000 in
theorem ct_lin (G : Own.Gx) (hw : ∀ d ∈ tables_1, d.before G.a0 G.Z = true) (em ei : Addr) (hO : OptE G em) (hI : OptI G ei) {As : List Own.Ent} {Li : List Own.LitE} {w : Bool} (p : Addr) (v0 v1 v2 : Value) (y : Int32) (hp : (p, w, Own.obj "com/example/precedence/precedence/MalformedMemberException" own_mm_F [v0, v1, .null, .int y, v2]) ∈ As) :
    Own.Ct G [] (⟨"com/example/precedence/precedence/MalformedMemberException", "line", "()Ljava/util/OptionalInt;"⟩ : MethodName) prog_14_method_5_code 1 (some (.object "java/util/OptionalInt")) ({ frames := 1, cells := 0, slots := 0, locals := 11 } : Room) [.ref p] As Li (fun v A L => v = some (.ref ei) ∧ As = A ∧ Li = L) := by
  refine Own.Ct.intro pn_9023933 (Ls := [.val (.ref p)]) rfl rfl ?_
  intro K
  refine Own.W.aloadN (pc := 0) d38_0 rfl rfl ?_
  refine Own.W.getF (pc := 1) (host := "") (Or.inl (hw _ (List.mem_of_getElem? (i := 84) rfl))) (Via.refl (O := "com/example/precedence/precedence/MalformedMemberException")) d38_1 (by repeat (first | exact List.Mem.head _ | assumption | exact List.mem_append_right _ (List.Mem.head _) | apply List.Mem.tail)) (by repeat (first | exact Own.FAt.head | apply Own.FAt.tail)) ?_
  refine Own.W.nonnullN (pc := 4) d38_4 ?_
  refine Own.W.callS (pc := 7) (ct_oie G hw em ei hO hI) d38_7 (hw _ (List.mem_of_getElem? (i := 236) rfl)) (hw _ (List.mem_of_getElem? (i := 237) rfl)) (hw _ (List.mem_of_getElem? (i := 238) rfl)) (hw _ (List.mem_of_getElem? (i := 239) rfl)) (by decide) pd_71833004 rfl rfl (Nat.le_of_ble_eq_true rfl) (Nat.le_of_ble_eq_true rfl) (Nat.le_of_ble_eq_true rfl) (Nat.le_of_ble_eq_true rfl) ?_
  rintro _ _ _ ⟨rfl, rfl, rfl⟩
  refine Own.W.goto (pc := 10) 20 d38_10 (by decide) (by decide) ?_
  refine Own.W.aret (pc := 20) d38_20 rfl rfl rfl ?_ (Nat.le_of_ble_eq_true rfl) (Nat.le_of_ble_eq_true rfl)
  exact ⟨rfl, rfl, rfl⟩
theorem d40_0 : decode prog_14_method_4_code 0 = .ok (.aload_n 0, 1) := by decide +kernel
theorem d40_1 : decode prog_14_method_4_code 1 = .ok (.getfield 7, 3) := by decide +kernel
theorem d40_4 : decode prog_14_method_4_code 4 = .ok (.invokestatic 44, 3) := by decide +kernel
theorem pd_81602273 : parseMethodDescriptor "(Ljava/lang/Object;)Ljava/util/Optional;" = some ⟨[(.object "java/lang/Object")], some (.object "java/util/Optional")⟩ := by decide +kernel
theorem d40_7 : decode prog_14_method_4_code 7 = .ok (.areturn, 1) := by decide +kernel
theorem pn_89548042 : plainFor (⟨"com/example/precedence/precedence/MalformedMemberException", "file", "()Ljava/util/Optional;"⟩ : MethodName) = true := by first | exact plainFor_of_name (by first | (simp [plainName, overriddenIn]; done) | decide +kernel) | decide +kernel
set_option maxRecDepth 65536 in
set_option maxHeartbeats 4000000 in
theorem ct_fil (G : Own.Gx) (hw : ∀ d ∈ tables_1, d.before G.a0 G.Z = true) (em ei : Addr) (hO : OptE G em) (hI : OptI G ei) {As : List Own.Ent} {Li : List Own.LitE} {w : Bool} (p : Addr) (v0 v1 v2 : Value) (y : Int32) (hp : (p, w, Own.obj "com/example/precedence/precedence/MalformedMemberException" own_mm_F [v0, v1, .null, .int y, v2]) ∈ As) :
    Own.Ct G [] (⟨"com/example/precedence/precedence/MalformedMemberException", "file", "()Ljava/util/Optional;"⟩ : MethodName) prog_14_method_4_code 1 (some (.object "java/util/Optional")) ({ frames := 1, cells := 0, slots := 0, locals := 12 } : Room) [.ref p] As Li (fun v A L => v = some (.ref em) ∧ As = A ∧ Li = L) := by
  refine Own.Ct.intro pn_89548042 (Ls := [.val (.ref p)]) rfl rfl ?_
  intro K
  refine Own.W.aloadN (pc := 0) d40_0 rfl rfl ?_
  refine Own.W.getF (pc := 1) (host := "") (Or.inl (hw _ (List.mem_of_getElem? (i := 84) rfl))) (Via.refl (O := "com/example/precedence/precedence/MalformedMemberException")) d40_1 (by repeat (first | exact List.Mem.head _ | assumption | exact List.mem_append_right _ (List.Mem.head _) | apply List.Mem.tail)) (by repeat (first | exact Own.FAt.head | apply Own.FAt.tail)) ?_
  refine Own.W.callS (pc := 4) (ct_onu G hw em ei hO hI) d40_4 (hw _ (List.mem_of_getElem? (i := 246) rfl)) (hw _ (List.mem_of_getElem? (i := 247) rfl)) (hw _ (List.mem_of_getElem? (i := 248) rfl)) (hw _ (List.mem_of_getElem? (i := 249) rfl)) (by decide) pd_81602273 rfl rfl (Nat.le_of_ble_eq_true rfl) (Nat.le_of_ble_eq_true rfl) (Nat.le_of_ble_eq_true rfl) (Nat.le_of_ble_eq_true rfl) ?_
  rintro _ _ _ ⟨rfl, rfl, rfl⟩
  refine Own.W.aret (pc := 7) d40_7 rfl rfl rfl ?_ (Nat.le_of_ble_eq_true rfl) (Nat.le_of_ble_eq_true rfl)
  exact ⟨rfl, rfl, rfl⟩
theorem pd_84933738 : parseMethodDescriptor "([C)V" = some ⟨[(.array .char)], none⟩ := by decide +kernel
theorem pd_87305072 : parseMethodDescriptor "(Ljava/nio/file/Path;Ljava/lang/String;I)Lcom/example/precedence/precedence/MalformedMemberException;" = some ⟨[(.object "java/nio/file/Path"), (.object "java/lang/String"), .int], some (.object "com/example/precedence/precedence/MalformedMemberException")⟩ := by decide +kernel
theorem pd_59025377 : parseMethodDescriptor "()Ljava/util/Optional;" = some ⟨[], some (.object "java/util/Optional")⟩ := by decide +kernel
theorem pn_29175115 : plainFor x = true := by first | exact plainFor_of_name (by first | (simp [plainName, overriddenIn]; done) | decide +kernel) | decide +kernel
set_option maxRecDepth 65536 in
set_option maxHeartbeats 4000000 in
theorem ct_law (G : Own.Gx) (hw : ∀ d ∈ tables_1, d.before G.a0 G.Z = true) (ws : List Jvm.Cond) (hC : Own.CSt G) (hnw : G.nw = false) (wS : ∀ a ∈ Bundle.stringAtoms, a.before G.a0 G.Z = true) (hcw : Jvm.Lit.compactW.before G.a0 G.Z = true) (hhm30 : Jvm.Lit.constHeld G.Z "com/example/precedence/precedence/MalformedMemberException" 30) (hhm35 : Jvm.Lit.constHeld G.Z "com/example/precedence/precedence/MalformedMemberException" 35) (hst : G.l.stackTraces = true) (hMK : G.Z.vm.MethodsKnown) (hFK : G.Z.vm.FramesKnown G.Z.frames) (vU vN : Value) (hU : Sta G.Z G.Z.heap "java/lang/Throwable" "UNASSIGNED_STACK" "[Ljava/lang/StackTraceElement;" vU) (rU : vU.isRef = true) (nU : vU ≠ .null) (hN : Sta G.Z G.Z.heap "java/lang/Throwable" "SUPPRESSED_SENTINEL" "Ljava/util/List;" vN) (rN : vN.isRef = true) (hDg : Digs G) (em ei : Addr) (hO : OptE G em) (hI : OptI G ei) (p0 p1 p2 : Int32) :
    Own.Ct G ws x code maxLocals ret room_1 [.int p0, .int p1, .int p2] [] [] (Q1) := by
  refine Own.Ct.intro pn_29175115 (Ls := [.val (.int p0), .val (.int p1), .val (.int p2), .unset, .unset, .unset, .unset, .unset, .unset, .unset, .unset, .unset, .unset]) (Own.args_ls rfl) rfl ?_
  intro K
  refine Own.W.iconst (pc := 0) (z := (2 : Int32)) at_0 (by decide) ?_
  refine Own.W.newP (pc := 1) 2 (hw _ (List.mem_of_getElem? (i := 0) rfl)) at_1 rfl (by decide) (Nat.le_of_ble_eq_true rfl) (by decide) (vs := [.int 0, .int 0]) rfl (Nat.le_of_ble_eq_true rfl) (Nat.le_of_ble_eq_true rfl) ?_
  intro o1
  refine Own.W.dup (pc := 3) at_3 rfl ?_
  refine Own.W.iconst (pc := 4) (z := (0 : Int32)) at_4 (by decide) ?_
  refine Own.W.iloadN (pc := 5) at_5 rfl ?_
  refine Own.W.sipush (pc := 6) (z := (255 : Int32)) at_6 (by decide) ?_
  refine Own.W.iand (pc := 9) at_9 rfl ?_
  refine Own.W.i2c (pc := 10) at_10 (i2c_mask _) ?_
  refine Own.W.castore (pc := 11) at_11 (by decide) (i := 0) (by decide) (by simp) (u := .int (p0 &&& 255)) (congrArg Value.int (own_nar (own_id _))) (vs' := [.int (p0 &&& 255), .int 0]) rfl Own.Upd.head ?_
  refine Own.W.dup (pc := 12) at_12 rfl ?_
  refine Own.W.iconst (pc := 13) (z := (1 : Int32)) at_13 (by decide) ?_
  refine Own.W.iloadN (pc := 14) at_14 rfl ?_
  refine Own.W.bipush (pc := 15) (z := (8 : Int32)) at_15 (by decide) ?_
  refine Own.W.iushr (pc := 17) at_17 rfl ?_
  refine Own.W.sipush (pc := 18) (z := (255 : Int32)) at_18 (by decide) ?_
  refine Own.W.iand (pc := 21) at_21 rfl ?_
  refine Own.W.i2c (pc := 22) at_22 (i2c_mask _) ?_
  refine Own.W.castore (pc := 23) at_23 (by decide) (i := 1) (by decide) (by simp) (u := .int (ush p0 8 &&& 255)) (congrArg Value.int (own_nar (own_id _))) (vs' := [.int (p0 &&& 255), .int (ush p0 8 &&& 255)]) rfl Own.Upd.head ?_
  refine Own.W.astoreN (pc := 24) (Ls' := [_, _, _, _, _, _, _, _, _, _, _, _, _]) at_24 rfl rfl rfl ?_
  refine Own.W.iconst (pc := 25) (z := (2 : Int32)) at_25 (by decide) ?_
  refine Own.W.newP (pc := 26) 2 (hw _ (List.mem_of_getElem? (i := 0) rfl)) at_26 rfl (by decide) (Nat.le_of_ble_eq_true rfl) (by decide) (vs := [.int 0, .int 0]) rfl (Nat.le_of_ble_eq_true rfl) (Nat.le_of_ble_eq_true rfl) ?_
  intro o26
  refine Own.W.dup (pc := 28) at_28 rfl ?_
  refine Own.W.iconst (pc := 29) (z := (0 : Int32)) at_29 (by decide) ?_
  refine Own.W.iloadN (pc := 30) at_30 rfl ?_
  refine Own.W.sipush (pc := 31) (z := (255 : Int32)) at_31 (by decide) ?_
  refine Own.W.iand (pc := 34) at_34 rfl ?_
  refine Own.W.i2c (pc := 35) at_35 (i2c_mask _) ?_
  refine Own.W.castore (pc := 36) at_36 (by decide) (i := 0) (by decide) (by simp) (u := .int (p1 &&& 255)) (congrArg Value.int (own_nar (own_id _))) (vs' := [.int (p1 &&& 255), .int 0]) rfl Own.Upd.head ?_
  refine Own.W.dup (pc := 37) at_37 rfl ?_
  refine Own.W.iconst (pc := 38) (z := (1 : Int32)) at_38 (by decide) ?_
  refine Own.W.iloadN (pc := 39) at_39 rfl ?_
  refine Own.W.bipush (pc := 40) (z := (8 : Int32)) at_40 (by decide) ?_
  refine Own.W.iushr (pc := 42) at_42 rfl ?_
  refine Own.W.sipush (pc := 43) (z := (255 : Int32)) at_43 (by decide) ?_
  refine Own.W.iand (pc := 46) at_46 rfl ?_
  refine Own.W.i2c (pc := 47) at_47 (i2c_mask _) ?_
  refine Own.W.castore (pc := 48) at_48 (by decide) (i := 1) (by decide) (by simp) (u := .int (ush p1 8 &&& 255)) (congrArg Value.int (own_nar (own_id _))) (vs' := [.int (p1 &&& 255), .int (ush p1 8 &&& 255)]) rfl Own.Upd.head ?_
  refine Own.W.astore (pc := 49) (Ls' := [_, _, _, _, _, _, _, _, _, _, _, _, _]) at_49 rfl rfl rfl ?_
  refine Own.W.new (pc := 51) (hw _ (List.mem_of_getElem? (i := 1) rfl)) (hw _ (List.mem_of_getElem? (i := 2) rfl)) (hw _ (List.mem_of_getElem? (i := 3) rfl)) at_51 (LF_java_lang_String G hw) (vs := [.int 0, .null]) (by decide) (Nat.le_of_ble_eq_true rfl) (Nat.le_of_ble_eq_true rfl) ?_
  intro o51
  refine Own.W.dup (pc := 54) at_54 rfl ?_
  refine Own.W.aloadN (pc := 55) at_55 rfl rfl ?_
  refine Own.W.perm ?_ (List.Perm.cons _ (List.Perm.swap _ _ _))
  refine Own.W.callI (pc := 56) (ct_str1 G hw hC o51 o1 [(p0 &&& 255), (ush p0 8 &&& 255)] 2 (by simp) (by simp) (by decide) (fun z hz => own_ch (by simp only [List.mem_cons, List.not_mem_nil, or_false] at hz; rcases hz with rfl | rfl <;> exact own_id _)) (Own.AVin.mem (List.Mem.head _))) at_56 rfl (hw _ (List.mem_of_getElem? (i := 4) rfl)) (hw _ (List.mem_of_getElem? (i := 5) rfl)) (hw _ (List.mem_of_getElem? (i := 3) rfl)) (hw _ (List.mem_of_getElem? (i := 6) rfl)) (by decide) pd_84933738 rfl rfl (Nat.le_of_ble_eq_true rfl) (Nat.le_of_ble_eq_true rfl) (Nat.le_of_ble_eq_true rfl) (by first | exact Nat.le_of_ble_eq_true rfl | (simp; done) | (simp; omega)) ?_
  rintro _ _ _ ⟨b1, rfl, rfl, rfl⟩
  refine Own.W.frz Own.Frz.head ?_
  refine Own.W.frz (Own.Frz.tail Own.Frz.head) ?_
  rw [own_by_map]
  obtain ⟨xs, hxs⟩ : ∃ xs, xs = own_by [(p0 &&& 255), (ush p0 8 &&& 255)] := ⟨_, rfl⟩
  rw [← hxs]
  have hlx : xs.length = 2 := by rw [hxs]; rfl
  refine Own.W.astore (pc := 59) (Ls' := [_, _, _, _, _, _, _, _, _, _, _, _, _]) at_59 rfl rfl rfl ?_
  refine Own.W.new (pc := 61) (hw _ (List.mem_of_getElem? (i := 1) rfl)) (hw _ (List.mem_of_getElem? (i := 2) rfl)) (hw _ (List.mem_of_getElem? (i := 3) rfl)) at_61 (LF_java_lang_String G hw) (vs := [.int 0, .null]) (by decide) (Nat.le_of_ble_eq_true rfl) (Nat.le_of_ble_eq_true rfl) ?_
  intro o61
  refine Own.W.dup (pc := 64) at_64 rfl ?_
  refine Own.W.aload (pc := 65) at_65 rfl rfl ?_
  refine Own.W.callI (pc := 67) (ct_str1 G hw hC o61 o26 [(p1 &&& 255), (ush p1 8 &&& 255)] 2 (by simp) (by simp) (by decide) (fun z hz => own_ch (by simp only [List.mem_cons, List.not_mem_nil, or_false] at hz; rcases hz with rfl | rfl <;> exact own_id _)) (Own.AVin.mem (by repeat (first | exact List.Mem.head _ | assumption | exact List.mem_append_right _ (List.Mem.head _) | apply List.Mem.tail)))) at_67 rfl (hw _ (List.mem_of_getElem? (i := 4) rfl)) (hw _ (List.mem_of_getElem? (i := 5) rfl)) (hw _ (List.mem_of_getElem? (i := 3) rfl)) (hw _ (List.mem_of_getElem? (i := 6) rfl)) (by decide) pd_84933738 rfl rfl (Nat.le_of_ble_eq_true rfl) (Nat.le_of_ble_eq_true rfl) (Nat.le_of_ble_eq_true rfl) (by first | exact Nat.le_of_ble_eq_true rfl | (simp; done) | (simp; omega)) ?_
  rintro _ _ _ ⟨b2, rfl, rfl, rfl⟩
  refine Own.W.frz Own.Frz.head ?_
  refine Own.W.frz (Own.Frz.tail Own.Frz.head) ?_
  rw [own_by_map]
  obtain ⟨ys, hys⟩ : ∃ ys, ys = own_by [(p1 &&& 255), (ush p1 8 &&& 255)] := ⟨_, rfl⟩
  rw [← hys]
  have hly : ys.length = 2 := by rw [hys]; rfl
  refine Own.W.astore (pc := 70) (Ls' := [_, _, _, _, _, _, _, _, _, _, _, _, _]) at_70 rfl rfl rfl ?_
  refine Own.W.new (pc := 72) (hw _ (List.mem_of_getElem? (i := 30) rfl)) (hw _ (List.mem_of_getElem? (i := 31) rfl)) (hw _ (List.mem_of_getElem? (i := 32) rfl)) at_72 (LF_com_example_precedence_precedence_MalformedMemberException G hw) (vs := [.null, .null, .null, .null, .null, .int 0, .null, .int 0, .null]) (by decide) (Nat.le_of_ble_eq_true rfl) (Nat.le_of_ble_eq_true rfl) ?_
  intro o72
  refine Own.W.dup (pc := 75) at_75 rfl ?_
  refine Own.W.aload (pc := 76) at_76 rfl rfl ?_
  refine Own.W.callI (pc := 78) (ct_mi1 G hw hnw hst hMK hFK vU vN hU rU nU hN rN o72 o51) at_78 rfl (hw _ (List.mem_of_getElem? (i := 33) rfl)) (hw _ (List.mem_of_getElem? (i := 34) rfl)) (hw _ (List.mem_of_getElem? (i := 32) rfl)) (hw _ (List.mem_of_getElem? (i := 35) rfl)) (by decide) pd_62450860 rfl rfl (Nat.le_of_ble_eq_true rfl) (Nat.le_of_ble_eq_true rfl) (Nat.le_of_ble_eq_true rfl) (Nat.le_of_ble_eq_true rfl) ?_
  rintro _ _ _ ⟨rfl, rfl, rfl⟩
  refine Own.W.frz Own.Frz.head ?_
  skip
  refine Own.W.astore (pc := 81) (Ls' := [_, _, _, _, _, _, _, _, _, _, _, _, _]) at_81 rfl rfl rfl ?_
  refine Own.W.aload (pc := 83) at_83 rfl rfl ?_
  refine Own.W.aconstNull (pc := 85) at_85 ?_
  refine Own.W.aload (pc := 86) at_86 rfl rfl ?_
  refine Own.W.iloadN (pc := 88) at_88 rfl ?_
  refine Own.W.callV (pc := 89) (ct_at G hw hC hnw wS hcw hhm30 hhm35 hst hMK hFK vU vN hU rU nU hN rN hDg o72 o61 o51 p2 0 (.ref o51) ys xs hly hlx ⟨b2, _, _, List.Mem.tail _ (List.Mem.tail _ (List.Mem.head _)), (by repeat (first | exact Own.FAt.head | apply Own.FAt.tail)), (by repeat (first | exact Own.FAt.head | apply Own.FAt.tail)), List.Mem.tail _ (List.Mem.head _)⟩ ⟨b1, _, _, List.Mem.tail _ (List.Mem.tail _ (List.Mem.tail _ (List.Mem.tail _ (List.Mem.head _)))), (by repeat (first | exact Own.FAt.head | apply Own.FAt.tail)), (by repeat (first | exact Own.FAt.head | apply Own.FAt.tail)), List.Mem.tail _ (List.Mem.tail _ (List.Mem.tail _ (List.Mem.head _)))⟩ (Own.LA.nil _) (List.Mem.head _)) at_89 (C := "com/example/precedence/precedence/MalformedMemberException") (Own.Is.mem (List.Mem.head _)) (hw _ (List.mem_of_getElem? (i := 90) rfl)) (hw _ (List.mem_of_getElem? (i := 91) rfl)) (Own.nf_sel (hw _ (List.mem_of_getElem? (i := 93) rfl))) (hw _ (List.mem_of_getElem? (i := 93) rfl)) (hw _ (List.mem_of_getElem? (i := 92) rfl)) (hw _ (List.mem_of_getElem? (i := 32) rfl)) (hw _ (List.mem_of_getElem? (i := 94) rfl)) (by decide) pd_87305072 rfl rfl (Nat.le_of_ble_eq_true rfl) (Nat.le_of_ble_eq_true rfl) (Nat.le_of_ble_eq_true rfl) (Nat.le_of_ble_eq_true rfl) ?_
  rintro _ A1 L1 ⟨o2, z2, rfl, hp2, q1⟩
  have hp1 := q1 _ (List.Mem.head _) rfl
  refine Own.W.astore (pc := 92) (Ls' := [_, _, _, _, _, _, _, _, _, _, _, _, _]) at_92 rfl rfl rfl ?_
  refine Own.W.aload (pc := 94) at_94 rfl rfl ?_
  refine Own.W.callV (pc := 96) (ct_lin G hw em ei hO hI o72 (.ref o51) (.ref o72) (.ref o51) 0 hp1) at_96 (C := "com/example/precedence/precedence/MalformedMemberException") (Own.Is.mem hp1) (hw _ (List.mem_of_getElem? (i := 231) rfl)) (hw _ (List.mem_of_getElem? (i := 232) rfl)) (Own.nf_sel (hw _ (List.mem_of_getElem? (i := 234) rfl))) (hw _ (List.mem_of_getElem? (i := 234) rfl)) (hw _ (List.mem_of_getElem? (i := 233) rfl)) (hw _ (List.mem_of_getElem? (i := 32) rfl)) (hw _ (List.mem_of_getElem? (i := 235) rfl)) (by decide) pd_71833004 rfl rfl (Nat.le_of_ble_eq_true rfl) (Nat.le_of_ble_eq_true rfl) (Nat.le_of_ble_eq_true rfl) (Nat.le_of_ble_eq_true rfl) ?_
  rintro _ _ _ ⟨rfl, rfl, rfl⟩
  refine Own.W.astore (pc := 99) (Ls' := [_, _, _, _, _, _, _, _, _, _, _, _, _]) at_99 rfl rfl rfl ?_
  refine Own.W.aload (pc := 101) at_101 rfl rfl ?_
  refine Own.W.callV (pc := 103) (ct_lin G hw em ei hO hI o2 (.ref z2) (.ref o2) (.ref o51) p2 hp2) at_103 (C := "com/example/precedence/precedence/MalformedMemberException") (Own.Is.mem hp2) (hw _ (List.mem_of_getElem? (i := 231) rfl)) (hw _ (List.mem_of_getElem? (i := 232) rfl)) (Own.nf_sel (hw _ (List.mem_of_getElem? (i := 234) rfl))) (hw _ (List.mem_of_getElem? (i := 234) rfl)) (hw _ (List.mem_of_getElem? (i := 233) rfl)) (hw _ (List.mem_of_getElem? (i := 32) rfl)) (hw _ (List.mem_of_getElem? (i := 235) rfl)) (by decide) pd_71833004 rfl rfl (Nat.le_of_ble_eq_true rfl) (Nat.le_of_ble_eq_true rfl) (Nat.le_of_ble_eq_true rfl) (Nat.le_of_ble_eq_true rfl) ?_
  rintro _ _ _ ⟨rfl, rfl, rfl⟩
  refine Own.W.astore (pc := 106) (Ls' := [_, _, _, _, _, _, _, _, _, _, _, _, _]) at_106 rfl rfl rfl ?_
  refine Own.W.aload (pc := 108) at_108 rfl rfl ?_
  refine Own.W.nullN (pc := 110) at_110 ?_
  refine Own.W.aload (pc := 113) at_113 rfl rfl ?_
  refine Own.W.nonnullY (pc := 115) 120 at_115 (by decide) (by decide) ?_
  refine Own.W.aload (pc := 120) at_120 rfl rfl ?_
  refine Own.W.callV (pc := 122) (ct_fil G hw em ei hO hI o72 (.ref o51) (.ref o72) (.ref o51) 0 hp1) at_122 (C := "com/example/precedence/precedence/MalformedMemberException") (Own.Is.mem hp1) (hw _ (List.mem_of_getElem? (i := 241) rfl)) (hw _ (List.mem_of_getElem? (i := 242) rfl)) (Own.nf_sel (hw _ (List.mem_of_getElem? (i := 244) rfl))) (hw _ (List.mem_of_getElem? (i := 244) rfl)) (hw _ (List.mem_of_getElem? (i := 243) rfl)) (hw _ (List.mem_of_getElem? (i := 32) rfl)) (hw _ (List.mem_of_getElem? (i := 245) rfl)) (by decide) pd_59025377 rfl rfl (Nat.le_of_ble_eq_true rfl) (Nat.le_of_ble_eq_true rfl) (Nat.le_of_ble_eq_true rfl) (Nat.le_of_ble_eq_true rfl) ?_
  rintro _ _ _ ⟨rfl, rfl, rfl⟩
  refine Own.W.callV (pc := 125) (ct_opr G hw em ei hO hI) at_125 (C := "java/util/Optional") (Own.Is.old hO.2.1) (hw _ (List.mem_of_getElem? (i := 251) rfl)) (hw _ (List.mem_of_getElem? (i := 252) rfl)) (Own.nf_sel (hw _ (List.mem_of_getElem? (i := 254) rfl))) (hw _ (List.mem_of_getElem? (i := 254) rfl)) (hw _ (List.mem_of_getElem? (i := 253) rfl)) (hw _ (List.mem_of_getElem? (i := 248) rfl)) (hw _ (List.mem_of_getElem? (i := 255) rfl)) (by decide) pd_93422000 rfl rfl (Nat.le_of_ble_eq_true rfl) (Nat.le_of_ble_eq_true rfl) (Nat.le_of_ble_eq_true rfl) (Nat.le_of_ble_eq_true rfl) ?_
  rintro _ _ _ ⟨rfl, rfl, rfl⟩
  refine Own.W.istore (pc := 128) (Ls' := [_, _, _, _, _, _, _, _, _, _, _, _, _]) at_128 rfl rfl ?_
  refine Own.W.aload (pc := 130) at_130 rfl rfl ?_
  refine Own.W.callV (pc := 132) (ct_fil G hw em ei hO hI o2 (.ref z2) (.ref o2) (.ref o51) p2 hp2) at_132 (C := "com/example/precedence/precedence/MalformedMemberException") (Own.Is.mem hp2) (hw _ (List.mem_of_getElem? (i := 241) rfl)) (hw _ (List.mem_of_getElem? (i := 242) rfl)) (Own.nf_sel (hw _ (List.mem_of_getElem? (i := 244) rfl))) (hw _ (List.mem_of_getElem? (i := 244) rfl)) (hw _ (List.mem_of_getElem? (i := 243) rfl)) (hw _ (List.mem_of_getElem? (i := 32) rfl)) (hw _ (List.mem_of_getElem? (i := 245) rfl)) (by decide) pd_59025377 rfl rfl (Nat.le_of_ble_eq_true rfl) (Nat.le_of_ble_eq_true rfl) (Nat.le_of_ble_eq_true rfl) (Nat.le_of_ble_eq_true rfl) ?_
  rintro _ _ _ ⟨rfl, rfl, rfl⟩
  refine Own.W.callV (pc := 135) (ct_opr G hw em ei hO hI) at_135 (C := "java/util/Optional") (Own.Is.old hO.2.1) (hw _ (List.mem_of_getElem? (i := 251) rfl)) (hw _ (List.mem_of_getElem? (i := 252) rfl)) (Own.nf_sel (hw _ (List.mem_of_getElem? (i := 254) rfl))) (hw _ (List.mem_of_getElem? (i := 254) rfl)) (hw _ (List.mem_of_getElem? (i := 253) rfl)) (hw _ (List.mem_of_getElem? (i := 248) rfl)) (hw _ (List.mem_of_getElem? (i := 255) rfl)) (by decide) pd_93422000 rfl rfl (Nat.le_of_ble_eq_true rfl) (Nat.le_of_ble_eq_true rfl) (Nat.le_of_ble_eq_true rfl) (Nat.le_of_ble_eq_true rfl) ?_
  rintro _ _ _ ⟨rfl, rfl, rfl⟩
  refine Own.W.istore (pc := 138) (Ls' := [_, _, _, _, _, _, _, _, _, _, _, _, _]) at_138 rfl rfl ?_
  refine Own.W.aload (pc := 140) at_140 rfl rfl ?_
  refine Own.W.callV (pc := 142) (ct_oip G hw em ei hO hI) at_142 (C := "java/util/OptionalInt") (Own.Is.old hI.2.1) (hw _ (List.mem_of_getElem? (i := 258) rfl)) (hw _ (List.mem_of_getElem? (i := 259) rfl)) (Own.nf_sel (hw _ (List.mem_of_getElem? (i := 261) rfl))) (hw _ (List.mem_of_getElem? (i := 261) rfl)) (hw _ (List.mem_of_getElem? (i := 260) rfl)) (hw _ (List.mem_of_getElem? (i := 238) rfl)) (hw _ (List.mem_of_getElem? (i := 262) rfl)) (by decide) pd_93422000 rfl rfl (Nat.le_of_ble_eq_true rfl) (Nat.le_of_ble_eq_true rfl) (Nat.le_of_ble_eq_true rfl) (Nat.le_of_ble_eq_true rfl) ?_
  rintro _ _ _ ⟨rfl, rfl, rfl⟩
  refine Own.W.if_ne (pc := 145) 190 at_145 (by decide) (by decide) (fun h145 => absurd h145 (fun q => q rfl)) ?_
  intro h145
  refine Own.W.aload (pc := 148) at_148 rfl rfl ?_
  refine Own.W.callV (pc := 150) (ct_oip G hw em ei hO hI) at_150 (C := "java/util/OptionalInt") (Own.Is.old hI.2.1) (hw _ (List.mem_of_getElem? (i := 258) rfl)) (hw _ (List.mem_of_getElem? (i := 259) rfl)) (Own.nf_sel (hw _ (List.mem_of_getElem? (i := 261) rfl))) (hw _ (List.mem_of_getElem? (i := 261) rfl)) (hw _ (List.mem_of_getElem? (i := 260) rfl)) (hw _ (List.mem_of_getElem? (i := 238) rfl)) (hw _ (List.mem_of_getElem? (i := 262) rfl)) (by decide) pd_93422000 rfl rfl (Nat.le_of_ble_eq_true rfl) (Nat.le_of_ble_eq_true rfl) (Nat.le_of_ble_eq_true rfl) (Nat.le_of_ble_eq_true rfl) ?_
  rintro _ _ _ ⟨rfl, rfl, rfl⟩
  refine Own.W.if_ne (pc := 153) 190 at_153 (by decide) (by decide) (fun h153 => absurd h153 (fun q => q rfl)) ?_
  intro h153
  refine Own.W.iload (pc := 156) at_156 rfl ?_
  refine Own.W.if_ne (pc := 158) 190 at_158 (by decide) (by decide) (fun h158 => absurd h158 (fun q => q rfl)) ?_
  intro h158
  refine Own.W.iload (pc := 161) at_161 rfl ?_
  refine Own.W.if_ne (pc := 163) 190 at_163 (by decide) (by decide) (fun h163 => absurd h163 (fun q => q rfl)) ?_
  intro h163
  refine Own.W.aload (pc := 166) at_166 rfl rfl ?_
  refine Own.W.callV (pc := 168) (ct_oip G hw em ei hO hI) at_168 (C := "java/util/OptionalInt") (Own.Is.old hI.2.1) (hw _ (List.mem_of_getElem? (i := 258) rfl)) (hw _ (List.mem_of_getElem? (i := 259) rfl)) (Own.nf_sel (hw _ (List.mem_of_getElem? (i := 261) rfl))) (hw _ (List.mem_of_getElem? (i := 261) rfl)) (hw _ (List.mem_of_getElem? (i := 260) rfl)) (hw _ (List.mem_of_getElem? (i := 238) rfl)) (hw _ (List.mem_of_getElem? (i := 262) rfl)) (by decide) pd_93422000 rfl rfl (Nat.le_of_ble_eq_true rfl) (Nat.le_of_ble_eq_true rfl) (Nat.le_of_ble_eq_true rfl) (Nat.le_of_ble_eq_true rfl) ?_
  rintro _ _ _ ⟨rfl, rfl, rfl⟩
  refine Own.W.iload (pc := 171) at_171 rfl ?_
  refine Own.W.ic_ne (pc := 173) 190 at_173 (by decide) (by decide) (fun h173 => absurd h173 (fun q => q rfl)) ?_
  intro h173
  refine Own.W.aload (pc := 176) at_176 rfl rfl ?_
  refine Own.W.callV (pc := 178) (ct_oip G hw em ei hO hI) at_178 (C := "java/util/OptionalInt") (Own.Is.old hI.2.1) (hw _ (List.mem_of_getElem? (i := 258) rfl)) (hw _ (List.mem_of_getElem? (i := 259) rfl)) (Own.nf_sel (hw _ (List.mem_of_getElem? (i := 261) rfl))) (hw _ (List.mem_of_getElem? (i := 261) rfl)) (hw _ (List.mem_of_getElem? (i := 260) rfl)) (hw _ (List.mem_of_getElem? (i := 238) rfl)) (hw _ (List.mem_of_getElem? (i := 262) rfl)) (by decide) pd_93422000 rfl rfl (Nat.le_of_ble_eq_true rfl) (Nat.le_of_ble_eq_true rfl) (Nat.le_of_ble_eq_true rfl) (Nat.le_of_ble_eq_true rfl) ?_
  rintro _ _ _ ⟨rfl, rfl, rfl⟩
  refine Own.W.iload (pc := 181) at_181 rfl ?_
  refine Own.W.ic_ne (pc := 183) 190 at_183 (by decide) (by decide) (fun h183 => absurd h183 (fun q => q rfl)) ?_
  intro h183
  refine Own.W.iconst (pc := 186) (z := (1 : Int32)) at_186 (by decide) ?_
  refine Own.W.goto (pc := 187) 191 at_187 (by decide) (by decide) ?_
  refine Own.W.iret (pc := 191) at_191 rfl (by simp) (by first | rfl | decide) ?_ (Nat.le_of_ble_eq_true rfl) (Nat.le_of_ble_eq_true rfl)
  exact rfl
theorem own_dig {args : Array Value} {s : State} {t r : Term} {a : Addr} {z : Nat → Int32} (hv : ∀ idx, t.eval args s none idx s = some (.ref a)) (hx : (Jvm.Cond.exactly t "[B").value args s none s [] = some true) (hl : (Jvm.Cond.eq (Jvm.Term.length t) (Jvm.Term.int (100 : Int32))).value args s none s [] = some true)
    (hall : (Jvm.Cond.all t (Jvm.Cond.eq (Jvm.Term.elem t (Jvm.Term.index 0)) r)).value args s none s [] = some true) (wa : (Jvm.Cond.arrayClass .byte).before args s = true) (hr : ∀ i, i < 100 → r.eval args s none [i] s = some (.int (z i))) (hb : ∀ i, i < 100 → fits .byte (.int (z i)) = true) :
    Own.AV s s.heap a false .byte ((List.range 100).map fun i => .int (z i)) := by
  obtain ⟨u, w, h1, -⟩ := cmp_v (Or.inl hl)
  cases hc : s.arrayAt? a with
  | none => simp [Term.eval, hv, hc] at h1
  | some cl =>
    have hsz : cl.slots.size = 100 := by
      by_cases hlt : cl.slots.size < 2 ^ 31
      · have q := gotT (Cond.eq_ints (len_f (hv []) hc hlt) (Term.int_eval 100)) hl
        have := congrArg Int32.toInt q
        rw [len_toInt hlt] at this
        have h17 : (100 : Int32).toInt = 100 := rfl
        omega
      · simp [Term.eval, hv, hc, hlt] at h1
    obtain ⟨a', c', cell, k, e1, e2, e3, e4, e5, e6, e7⟩ := Cond.exactly_spec (Cond.before_iff.mpr hx)
    cases (hv []).symm.trans e1
    have hcc : cl = cell ∧ cell.vm ≠ .unknown := by
      simp only [State.arrayAt?, e3, Option.bind_eq_bind, Option.bind_some] at hc
      subst e6
      simp only [e4, Option.bind_some] at hc
      by_cases hu : cell.vm = .unknown
      · simp [hu] at hc
      · refine ⟨?_, hu⟩
        simp only [hu, e5] at hc
        cases hk : k.kind <;> simp [hk] at hc
        exact hc.symm
    obtain ⟨rfl, hun⟩ := hcc
    obtain ⟨c2, k2, comp, f1, f2, f3⟩ := Cond.arrayClass_spec wa
    have ecls : c2 = c' := Option.some.inj (f1.symm.trans e2)
    have hA : Arr s s.heap a cl .byte := ⟨e3, ⟨(fun q hq => by rw [hq] at e5; cases e5), k2, by rw [e6, ← ecls]; exact f2, comp, f3⟩, hun⟩
    refine ⟨cl, hA, List.ext_getElem? fun i => ?_, by simp, fun v hv' => ?_, fun q => nomatch q⟩
    · by_cases hi : i < 100
      · have q := Cond.all_elim (hv []) hc hall i (by omega)
        obtain ⟨x, y, g1, g2, g3, g4⟩ := cmp_v (Or.inl q)
        cases (hr i hi).symm.trans g2
        obtain ⟨x', rfl⟩ := g4
        have e := gotT (Cond.eq_ints g1 (hr i hi)) q
        subst e
        have hj : (Jvm.Term.index 0).eval args s none [i] s = some (.int i.toInt32) := rfl
        obtain ⟨-, g5⟩ := elem_in g1 (hv [i]) hj e3
        rw [Own.n_clamp (by omega)] at g5
        rw [Array.getElem?_toList, g5]; simp [hi]
      · rw [List.getElem?_eq_none (by rw [Array.length_toList]; omega), List.getElem?_eq_none (by simp; omega)]
    · simp only [List.mem_map, List.mem_range] at hv'
      obtain ⟨i, hi, rfl⟩ := hv'
      exact hb i hi
def own_one (i : Nat) : Int32 := 48 + i.toInt32 % 10
def own_ten (i : Nat) : Int32 := 48 + i.toInt32 / 10
theorem own_ord {args : Array Value} {s : State} {t : Term} {a : Addr} {k : Int32} {C n d : String} (ht : t.eval args s none [] s = some (.ref a)) (h : (Jvm.Cond.eq (Jvm.Term.field t C n d) (Jvm.Term.int k)).value args s none s [] = some true) : Fld s s.heap a C n d (.int k) := by
  obtain ⟨u, w, h1, h2, q1, q2⟩ := cmp_v (Or.inl h)
  cases (Term.int_eval k).symm.trans h2
  obtain ⟨z, rfl⟩ := q2
  have e := gotT (Cond.eq_ints h1 (Term.int_eval k)) h
  subst e
  exact Fld.start (by rw [← fld_at ht]; exact h1)
theorem own_at {z : Nat → Int32} : ∀ i, i < 100 → ∃ y, ((List.range 100).map fun i => Value.int (z i))[i]? = some (.int y) := fun i hi => ⟨z i, by simp [hi]⟩
set_option maxRecDepth 65536 in
set_option maxHeartbeats 4000000 in
theorem comes_1 {Post : Tables → Env → Array Value → State → Outcome → State → Prop} (hpost : ∀ tb e args s v u, (limb_1_1.after args s (.returned v) u = true ∧ limb_1_2.after args s (.returned v) u = true) → Jvm.D.FramedW s (.returned v) u (Jvm.fieldLocs frame_1_writes args s ++ Jvm.arrayLocs frame_1_arrays args s ++ Jvm.staticLocs frame_1_statics s) 48 13376 → Post tb e args s (.returned v) u) :
    ArmFor flags0 classFile x code maxLocals ret World_1 tables_1 room_1 Calls_1 rest_1 Pre_1 Post := by
  intro l hfl _ _ p e ha hc hk s m args below hf hA hF happ hP
  obtain ⟨hcalls, hrest, hpre⟩ := hP
  obtain ⟨-, -, -, hnamed, -, -, -, hat⟩ := (Spec.applies_iff hf).mp happ
  obtain ⟨hg, hn⟩ := and_e (Cond.before_iff.mp (show (Jvm.Cond.and given_1 narrow_1).before args s = true from hpre))
  obtain ⟨hcnt, hgr⟩ := and_e hg
  obtain ⟨ha0, hgr⟩ := and_e hgr
  obtain ⟨ha1, hgr⟩ := and_e hgr
  have ha2 := hgr
  obtain ⟨w0, w1, w2, rfl⟩ : ∃ w0 w1 w2 : Value, args = #[w0, w1, w2] := by
    have hs : args.size = 3 := by simpa [Cond.value, given_1] using hcnt
    obtain ⟨L⟩ := args
    match L, hs with
    | [w0, w1, w2], _ => exact ⟨w0, w1, w2, rfl⟩
  have hw := fun d (hd : d ∈ tables_1) => atoms_spec (ws := Jvm.Cond.code x code maxLocals ret :: tables_1) hat d (List.mem_cons_of_mem _ hd)
  obtain ⟨hsets, hown0⟩ := atoms_of _ (rest_1_c_eq ▸ (show rest_1_c.before _ s = true from hrest))
  obtain ⟨i0, ei0⟩ := is_v ha0
  obtain rfl : w0 = (.int i0) := Option.some.inj ei0
  obtain ⟨i1, ei1⟩ := is_v ha1
  obtain rfl : w1 = (.int i1) := Option.some.inj ei1
  obtain ⟨i2, ei2⟩ := is_v ha2
  obtain rfl : w2 = (.int i2) := Option.some.inj ei2
  have wS : ∀ a ∈ Bundle.stringAtoms, a.before #[.int i0, .int i1, .int i2] s = true := fun a ha => by
    simp only [Bundle.stringAtoms, Bundle.sN, List.mem_cons, List.not_mem_nil, or_false] at ha
    rcases ha with rfl | rfl | rfl | rfl | rfl | rfl | rfl
    · exact (hw _ (List.mem_of_getElem? (i := 3) rfl))
    · exact (hw _ (List.mem_of_getElem? (i := 2) rfl))
    · exact (hw _ (List.mem_of_getElem? (i := 19) rfl))
    · exact (hw _ (List.mem_of_getElem? (i := 29) rfl))
    · exact (hw _ (List.mem_of_getElem? (i := 27) rfl))
    · exact (hw _ (List.mem_of_getElem? (i := 165) rfl))
    · exact (hw _ (List.mem_of_getElem? (i := 166) rfl))
  have hcw : Jvm.Lit.compactW.before #[.int i0, .int i1, .int i2] s = true := hsets _ (List.mem_of_getElem? (i := 2) rfl)
  obtain ⟨cz, ecz⟩ := is_v (Cond.before_iff.mp (hsets _ (List.mem_of_getElem? (i := 1) rfl)))
  have hC : Own.CSt (l, s, #[.int i0, .int i1, .int i2], false) := ⟨cz, Sta.start ecz (Or.inl (hsets _ (List.mem_of_getElem? (i := 0) rfl))), gotF (Cond.eq_ints ecz (Term.int_eval (0))) (not_v (Cond.before_iff.mp (hsets _ (List.mem_of_getElem? (i := 2) rfl))))⟩
  have hk0 := fun q (hq : q ∈ consts_1) => hcalls.2.2.1 q hq
  obtain ⟨d1, v1⟩ := exa_v (Cond.before_iff.mp (hsets _ (List.mem_of_getElem? (i := 32) rfl)))
  have S1 : Sta s s.heap "java/lang/Integer" "DigitOnes" "[B" (.ref d1) := Sta.start v1 (Or.inl (hsets _ (List.mem_of_getElem? (i := 31) rfl)))
  have H1 := own_dig (z := own_one) (a := d1) (fun idx => by rw [← v1]; rfl) (Cond.before_iff.mp (hsets _ (List.mem_of_getElem? (i := 32) rfl))) (Cond.before_iff.mp (hsets _ (List.mem_of_getElem? (i := 33) rfl))) (Cond.before_iff.mp (hsets _ (List.mem_of_getElem? (i := 34) rfl))) (hw _ (List.mem_of_getElem? (i := 19) rfl)) (fun i hi => rfl) (by decide)
  obtain ⟨d2, v2⟩ := exa_v (Cond.before_iff.mp (hsets _ (List.mem_of_getElem? (i := 37) rfl)))
  have S2 : Sta s s.heap "java/lang/Integer" "DigitTens" "[B" (.ref d2) := Sta.start v2 (Or.inl (hsets _ (List.mem_of_getElem? (i := 36) rfl)))
  have H2 := own_dig (z := own_ten) (a := d2) (fun idx => by rw [← v2]; rfl) (Cond.before_iff.mp (hsets _ (List.mem_of_getElem? (i := 37) rfl))) (Cond.before_iff.mp (hsets _ (List.mem_of_getElem? (i := 38) rfl))) (Cond.before_iff.mp (hsets _ (List.mem_of_getElem? (i := 39) rfl))) (hw _ (List.mem_of_getElem? (i := 19) rfl)) (fun i hi => rfl) (by decide)
  have hDg : Digs (l, s, #[.int i0, .int i1, .int i2], false) := ⟨⟨d1, _, S1, H1, own_at⟩, d2, _, S2, H2, own_at⟩
  obtain ⟨em, vem⟩ := exa_v (Cond.before_iff.mp (hsets _ (List.mem_of_getElem? (i := 47) rfl)))
  have hem : OptE (l, s, #[.int i0, .int i1, .int i2], false) em := ⟨Sta.start vem (Or.inl (hsets _ (List.mem_of_getElem? (i := 46) rfl))), Exa.start vem (Cond.before_iff.mp (hsets _ (List.mem_of_getElem? (i := 47) rfl))), Fld.start (by rw [← fld_at vem]; exact null_v (Cond.before_iff.mp (hsets _ (List.mem_of_getElem? (i := 48) rfl))))⟩
  obtain ⟨ei, vei⟩ := exa_v (Cond.before_iff.mp (hsets _ (List.mem_of_getElem? (i := 42) rfl)))
  have hei : OptI (l, s, #[.int i0, .int i1, .int i2], false) ei := ⟨Sta.start vei (Or.inl (hsets _ (List.mem_of_getElem? (i := 41) rfl))), Exa.start vei (Cond.before_iff.mp (hsets _ (List.mem_of_getElem? (i := 42) rfl))), own_ord vei (Cond.before_iff.mp (hsets _ (List.mem_of_getElem? (i := 43) rfl)))⟩
  obtain ⟨aU, evU⟩ := arr_v (Cond.before_iff.mp (hsets _ (List.mem_of_getElem? (i := 17) rfl)))
  have hU : Sta s s.heap "java/lang/Throwable" "UNASSIGNED_STACK" "[Ljava/lang/StackTraceElement;" (.ref aU) := Sta.start evU (Or.inl (hsets _ (List.mem_of_getElem? (i := 15) rfl)))
  obtain ⟨aN, evN⟩ := exa_v (Cond.before_iff.mp (hsets _ (List.mem_of_getElem? (i := 22) rfl)))
  have hN : Sta s s.heap "java/lang/Throwable" "SUPPRESSED_SENTINEL" "Ljava/util/List;" (.ref aN) := Sta.start evN (Or.inl (hsets _ (List.mem_of_getElem? (i := 20) rfl)))
  obtain ⟨n, o, g1, g2, g3, v, L, A, I, rfl, rfl, -, -, N, hq, hnw⟩ := ct_law (l, s, #[.int i0, .int i1, .int i2], false) hw tables_1 hC rfl wS hcw (hk0 _ (List.mem_of_getElem? (i := 0) rfl)) (hk0 _ (List.mem_of_getElem? (i := 1) rfl)) (own_st hfl) (own_mk_ hcalls.2.1) (own_fk_ hcalls.1) (.ref aU) (.ref aN) hU rfl (fun q => nomatch q) hN rfl hDg em ei hem hei i0 i1 i2 p e ha hc hk s m _ below hf ((Spec.applies_iff_loose hf).mp happ).1 ⟨rfl, State.Warmed39.refl s, Own.Inv.start _ _ _ _, Own.LI.start s⟩ (Own.FK.start hf)
  exact ⟨n, _, g1, g2, g3, hpost _ _ _ _ _ _ ⟨Cond.after_iff.mpr rfl, Cond.after_iff.mpr (eq_i res_at (Term.int_eval (1)) rfl)⟩ ⟨⟨_, rfl⟩, hq.2.1, hq.2.2.1, (hq.2.2.2.sift fun y hy => Or.inr (N y hy)).mono (by decide) (by decide)⟩⟩
theorem main_1_1 : Claimed_1_1 := comes_1 fun _ _ _ _ _ _ h hF => ⟨h.1, hF⟩
theorem main_1_2 : Claimed_1_2 := comes_1 fun _ _ _ _ _ _ h hF => ⟨h.2, hF⟩
end Jvm.Pilot.@@N@@
namespace Jvm.Pilot.@@N@@
open Jvm Jvm.ClassFile Sem Op Lib Jvm.Free Jvm.Stand Jvm.Pilot.@@N@@.Jvm.D
/-! MADE BY PROGRAM (witnessworld.py) out of the Statement's table words and the real class files: 45 classes; the members and pool entries that the words name. The judged class is class 1, her method 1. -/
namespace start1
open Jvm.ClassFile
def u (s : String) : CpInfo := .utf8 (stringToUtf16 s)
/-- a pool by its gaps: so many unusable entries, then the entry; so many at the end -/
def gap : Nat → List CpInfo → List CpInfo
  | 0, r => r
  | n + 1, r => .unusable :: gap n r
def poolList (es : List (Nat × CpInfo)) (last : Nat) : List CpInfo := es.foldr (fun e r => gap e.1 (e.2 :: r)) (gap last [])
def pool (es : List (Nat × CpInfo)) (last : Nat) : Array CpInfo := ⟨poolList es last⟩
def fileOf (pool : Array CpInfo) (this : Nat) (attrs : Array Attribute := #[]) (ms : Array MethodInfo := #[]) (fl : Nat := 33) (sup : Nat := 0) (ifs : Array Nat := #[]) (fds : Array FieldInfo := #[]) : ClassFile where
  minorVersion := 0
  majorVersion := 65
  constantPool := pool
  accessFlags := fl
  thisClass := this
  superClass := sup
  interfaces := ifs
  fields := fds
  methods := ms
  attributes := attrs
def plain (name : String) (sup : Option ClassId) : Class where
  name := name
  kind := .ordinary
  loader := none
  accessFlags := 33
  super := sup
  interfaces := #[]
  cf := none
  fields := #[]
  methods := #[]
  instanceTypes := #[]
  staticTypes := #[]
  resolved := #[]
  callSites := []
  init := .initialized
  statics := none
  mirror := none

def pool0 : Array CpInfo := pool [(5, u "<init>"), (0, u "()V"), (1, .class_ 10), (1, u "java/lang/Object"), (85, u "clone"), (0, u "()Ljava/lang/Object;")] 26

def k0c0 : Code := { maxStack := 0, maxLocals := 1, code := object_method_1_code, exceptionTable := #[], attributes := #[] }
def k0m0 : Method := { name := "<init>", desc := "()V", sig := { parameters := [], returnType := none }, accessFlags := 1, code := some k0c0 }
def k0m1 : Method := { name := "clone", desc := "()Ljava/lang/Object;", sig := { parameters := [], returnType := some (.object "java/lang/Object") }, accessFlags := 260, code := none }
/-- java/lang/Object -/
def k0 : Class := { plain "java/lang/Object" none with
  accessFlags := 33
  interfaces := #[]
  cf := some (fileOf pool0 8 #[] #[{ accessFlags := 1, nameIndex := 5, descriptorIndex := 6, attributes := #[] }, { accessFlags := 260, nameIndex := 96, descriptorIndex := 97, attributes := #[] }] 33 0 #[] #[])
  fields := #[]
  methods := #[k0m0, k0m1]
  instanceTypes := #[]
  staticTypes := #[]
  resolved := Array.replicate 124 none
  statics := none }

def pool1 : Array CpInfo := pool [(2, .class_ 4), (1, u "java/lang/Object"), (0, u "<init>"), (0, u "()V"), (0, .class_ 8), (0, u "java/lang/String"), (0, .methodref 7 10), (0, .nameAndType 5 11), (0, u "([C)V"), (0, .class_ 13), (0, u "com/example/precedence/precedence/MalformedMemberException"), (0, .methodref 12 15), (0, .nameAndType 5 16), (0, u "(Ljava/lang/String;)V"), (0, .methodref 12 18), (0, .nameAndType 19 20), (0, u "at"), (0, u "(Ljava/nio/file/Path;Ljava/lang/String;I)Lcom/example/precedence/precedence/MalformedMemberException;"), (0, .methodref 12 22), (0, .nameAndType 23 24), (0, u "line"), (0, u "()Ljava/util/OptionalInt;"), (0, .methodref 12 26), (0, .nameAndType 27 28), (0, u "file"), (0, u "()Ljava/util/Optional;"), (0, .methodref 30 31), (0, .class_ 32), (0, .nameAndType 33 34), (0, u "java/util/Optional"), (0, u "isPresent"), (0, u "()Z"), (0, .methodref 36 31), (0, .class_ 37), (0, u "java/util/OptionalInt"), (0, .class_ 39), (0, u "com/example/precedence/precedence/MalformedMemberExceptionLinePinLaw"), (2, u "law"), (0, u "(III)Z")] 5

def k1m0 : Method := { name := "<init>", desc := "()V", sig := { parameters := [], returnType := none }, accessFlags := 1, code := none }
def k1c1 : Code := { maxStack := 5, maxLocals := 13, code := code, exceptionTable := #[], attributes := #[] }
def k1m1 : Method := { name := "law", desc := "(III)Z", sig := { parameters := [.int, .int, .int], returnType := some .boolean }, accessFlags := 9, code := some k1c1 }
/-- com/example/precedence/precedence/MalformedMemberExceptionLinePinLaw -/
def k1 : Class := { plain "com/example/precedence/precedence/MalformedMemberExceptionLinePinLaw" (some 0) with
  accessFlags := 49
  interfaces := #[]
  cf := some (fileOf pool1 38 #[] #[{ accessFlags := 1, nameIndex := 5, descriptorIndex := 6, attributes := #[] }, { accessFlags := 9, nameIndex := 42, descriptorIndex := 43, attributes := #[] }] 49 2 #[] #[])
  fields := #[]
  methods := #[k1m0, k1m1]
  instanceTypes := #[]
  staticTypes := #[]
  resolved := Array.replicate 49 none
  statics := none }

def pool2 : Array CpInfo := pool [(1, .class_ 2), (0, u "java/io/Serializable"), (0, .class_ 4), (0, u "java/lang/Object")] 2

/-- java/io/Serializable -/
def k2 : Class := { plain "java/io/Serializable" (some 0) with
  accessFlags := 1537
  interfaces := #[]
  cf := some (fileOf pool2 1 #[] #[] 1537 3 #[] #[])
  fields := #[]
  methods := #[]
  instanceTypes := #[]
  staticTypes := #[]
  resolved := Array.replicate 7 none
  statics := none }

def pool3 : Array CpInfo := pool [(1, .class_ 2), (0, u "java/lang/Comparable"), (0, .class_ 4), (0, u "java/lang/Object")] 7

/-- java/lang/Comparable -/
def k3 : Class := { plain "java/lang/Comparable" (some 0) with
  accessFlags := 1537
  interfaces := #[]
  cf := some (fileOf pool3 1 #[] #[] 1537 3 #[] #[])
  fields := #[]
  methods := #[]
  instanceTypes := #[]
  staticTypes := #[]
  resolved := Array.replicate 12 none
  statics := none }

def pool4 : Array CpInfo := pool [(2, .class_ 4), (1, u "java/lang/CharSequence"), (42, .class_ 48), (0, u "java/lang/CharSequence$1CodePointIterator"), (10, .class_ 60), (0, u "java/lang/CharSequence$1CharIterator"), (5, .class_ 67), (0, u "java/lang/Object")] 63

/-- java/lang/CharSequence -/
def k4 : Class := { plain "java/lang/CharSequence" (some 0) with
  accessFlags := 1537
  interfaces := #[]
  cf := some (fileOf pool4 2 #[.nestMembers #[47, 59]] #[] 1537 66 #[] #[])
  fields := #[]
  methods := #[]
  instanceTypes := #[]
  staticTypes := #[]
  resolved := Array.replicate 131 none
  statics := none }

def pool5 : Array CpInfo := pool [(1, .class_ 2), (0, u "java/lang/constant/Constable"), (0, .class_ 4), (0, u "java/lang/Object")] 6

/-- java/lang/constant/Constable -/
def k5 : Class := { plain "java/lang/constant/Constable" (some 0) with
  accessFlags := 1537
  interfaces := #[]
  cf := some (fileOf pool5 1 #[] #[] 1537 3 #[] #[])
  fields := #[]
  methods := #[]
  instanceTypes := #[]
  staticTypes := #[]
  resolved := Array.replicate 11 none
  statics := none }

def pool6 : Array CpInfo := pool [(1, .class_ 2), (0, u "java/lang/constant/ConstantDesc"), (0, .class_ 4), (0, u "java/lang/Object")] 32

/-- java/lang/constant/ConstantDesc -/
def k6 : Class := { plain "java/lang/constant/ConstantDesc" (some 0) with
  accessFlags := 1537
  interfaces := #[]
  cf := some (fileOf pool6 1 #[] #[] 1537 3 #[] #[])
  fields := #[]
  methods := #[]
  instanceTypes := #[]
  staticTypes := #[]
  resolved := Array.replicate 37 none
  statics := none }

def pool7 : Array CpInfo := pool [(1, .methodref 2 3), (0, .class_ 4), (0, .nameAndType 5 6), (0, u "java/lang/Object"), (0, u "<init>"), (0, u "()V"), (2, .fieldref 10 11), (0, .class_ 12), (0, .nameAndType 13 14), (0, u "java/lang/String"), (0, u "value"), (0, u "[B"), (0, .fieldref 10 16), (0, .nameAndType 17 18), (0, u "coder"), (0, u "B"), (2, u "hash"), (0, u "I"), (2, u "hashIsZero"), (0, u "Z"), (0, .methodref 10 28), (0, .nameAndType 5 29), (0, u "([CIILjava/lang/Void;)V"), (8, .fieldref 10 39), (0, .nameAndType 40 26), (0, u "COMPACT_STRINGS"), (1, .class_ 44), (1, u "java/lang/StringUTF16"), (0, u "compress"), (1, .methodref 42 48), (0, .nameAndType 49 50), (0, u "coderFromArrayLen"), (0, u "([BI)B"), (3, .methodref 55 56), (0, .class_ 57), (0, .nameAndType 58 59), (0, u "java/util/Arrays"), (0, u "copyOfRange"), (0, u "([BII)[B"), (82, u "()Z"), (34, .methodref 42 178), (0, .nameAndType 45 179), (0, u "([CII)[B"), (13, .class_ 195), (1, u "java/lang/System"), (16, .methodref 193 213), (0, .nameAndType 214 215), (0, u "arraycopy"), (0, u "(Ljava/lang/Object;ILjava/lang/Object;II)V"), (118, u "()I"), (0, .methodref 10 336), (0, .nameAndType 17 337), (0, u "()B"), (2, u "()[B"), (148, .methodref 10 490), (0, .nameAndType 5 491), (0, u "(Ljava/lang/AbstractStringBuilder;Ljava/lang/Void;)V"), (1, .nameAndType 494 142), (0, u "isLatin1"), (11, .nameAndType 507 334), (0, u "length"), (24, u "getBytes"), (16, .methodref 550 506), (0, .class_ 551), (0, u "java/lang/AbstractStringBuilder"), (0, .methodref 550 553), (0, .nameAndType 554 340), (0, u "getValue"), (20, .class_ 576), (0, u "java/lang/CharSequence"), (22, u "CASE_INSENSITIVE_ORDER"), (0, u "Ljava/util/Comparator;"), (220, u "([BIB)V"), (188, u "([C)V"), (36, .methodref 550 493), (53, u "serialPersistentFields"), (0, u "[Ljava/io/ObjectStreamField;"), (0, .class_ 1104), (0, u "java/lang/String$CaseInsensitiveComparator"), (1, .class_ 1107), (0, u "java/io/Serializable"), (0, .class_ 1109), (0, u "java/lang/Comparable"), (0, .class_ 1111), (0, u "java/lang/constant/Constable"), (0, .class_ 1113), (0, u "java/lang/constant/ConstantDesc"), (2, u "serialVersionUID"), (0, u "J"), (3, u "REPL"), (0, u "C"), (2, u "LATIN1"), (1, u "UTF16"), (105, u "(Ljava/lang/StringBuilder;)V")] 217

def k7m0 : Method := { name := "<init>", desc := "()V", sig := { parameters := [], returnType := none }, accessFlags := 1, code := none }
def k7c1 : Code := { maxStack := 5, maxLocals := 2, code := jdk_42_method_3_code, exceptionTable := #[], attributes := #[] }
def k7m1 : Method := { name := "<init>", desc := "([C)V", sig := { parameters := [(.array .char)], returnType := none }, accessFlags := 1, code := some k7c1 }
def k7c2 : Code := { maxStack := 3, maxLocals := 2, code := jdk_42_method_53_code, exceptionTable := #[], attributes := #[] }
def k7m2 : Method := { name := "<init>", desc := "(Ljava/lang/StringBuilder;)V", sig := { parameters := [(.object "java/lang/StringBuilder")], returnType := none }, accessFlags := 1, code := some k7c2 }
def k7c3 : Code := { maxStack := 2, maxLocals := 1, code := jdk_42_method_54_code, exceptionTable := #[], attributes := #[] }
def k7m3 : Method := { name := "length", desc := "()I", sig := { parameters := [], returnType := some .int }, accessFlags := 1, code := some k7c3 }
def k7c4 : Code := { maxStack := 5, maxLocals := 4, code := jdk_42_method_147_code, exceptionTable := #[], attributes := #[] }
def k7m4 : Method := { name := "getBytes", desc := "([BIB)V", sig := { parameters := [(.array .byte), .int, .byte], returnType := none }, accessFlags := 0, code := some k7c4 }
def k7c5 : Code := { maxStack := 4, maxLocals := 6, code := jdk_42_method_149_code, exceptionTable := #[], attributes := #[] }
def k7m5 : Method := { name := "<init>", desc := "([CIILjava/lang/Void;)V", sig := { parameters := [(.array .char), .int, .int, (.object "java/lang/Void")], returnType := none }, accessFlags := 2, code := some k7c5 }
def k7c6 : Code := { maxStack := 5, maxLocals := 5, code := jdk_42_method_150_code, exceptionTable := #[], attributes := #[] }
def k7m6 : Method := { name := "<init>", desc := "(Ljava/lang/AbstractStringBuilder;Ljava/lang/Void;)V", sig := { parameters := [(.object "java/lang/AbstractStringBuilder"), (.object "java/lang/Void")], returnType := none }, accessFlags := 0, code := some k7c6 }
def k7c7 : Code := { maxStack := 1, maxLocals := 1, code := jdk_42_method_152_code, exceptionTable := #[], attributes := #[] }
def k7m7 : Method := { name := "coder", desc := "()B", sig := { parameters := [], returnType := some .byte }, accessFlags := 0, code := some k7c7 }
/-- java/lang/String -/
def k7 : Class := { plain "java/lang/String" (some 0) with
  accessFlags := 49
  interfaces := #[2, 3, 4, 5, 6]
  cf := some (fileOf pool7 10 #[.nestMembers #[1103]] #[{ accessFlags := 1, nameIndex := 5, descriptorIndex := 6, attributes := #[] }, { accessFlags := 1, nameIndex := 5, descriptorIndex := 1010, attributes := #[] }, { accessFlags := 1, nameIndex := 5, descriptorIndex := 1233, attributes := #[] }, { accessFlags := 1, nameIndex := 507, descriptorIndex := 334, attributes := #[] }, { accessFlags := 0, nameIndex := 532, descriptorIndex := 821, attributes := #[] }, { accessFlags := 2, nameIndex := 5, descriptorIndex := 29, attributes := #[] }, { accessFlags := 0, nameIndex := 5, descriptorIndex := 491, attributes := #[] }, { accessFlags := 0, nameIndex := 17, descriptorIndex := 337, attributes := #[] }] 49 2 #[1106, 1108, 575, 1110, 1112] #[{ accessFlags := 18, nameIndex := 13, descriptorIndex := 14, attributes := #[] }, { accessFlags := 18, nameIndex := 17, descriptorIndex := 18, attributes := #[] }, { accessFlags := 2, nameIndex := 21, descriptorIndex := 22, attributes := #[] }, { accessFlags := 2, nameIndex := 25, descriptorIndex := 26, attributes := #[] }, { accessFlags := 26, nameIndex := 1116, descriptorIndex := 1117, attributes := #[] }, { accessFlags := 24, nameIndex := 40, descriptorIndex := 26, attributes := #[] }, { accessFlags := 26, nameIndex := 1101, descriptorIndex := 1102, attributes := #[] }, { accessFlags := 26, nameIndex := 1121, descriptorIndex := 1122, attributes := #[] }, { accessFlags := 25, nameIndex := 599, descriptorIndex := 600, attributes := #[] }, { accessFlags := 24, nameIndex := 1125, descriptorIndex := 18, attributes := #[] }, { accessFlags := 24, nameIndex := 1127, descriptorIndex := 18, attributes := #[] }])
  fields := #[{ name := "value", type := (.array .byte), accessFlags := 18, slot := 0, constantValue := 0 }, { name := "coder", type := .byte, accessFlags := 18, slot := 1, constantValue := 0 }, { name := "hash", type := .int, accessFlags := 2, slot := 2, constantValue := 0 }, { name := "hashIsZero", type := .boolean, accessFlags := 2, slot := 3, constantValue := 0 }, { name := "serialVersionUID", type := .long, accessFlags := 26, slot := 0, constantValue := 0 }, { name := "COMPACT_STRINGS", type := .boolean, accessFlags := 24, slot := 1, constantValue := 0 }, { name := "serialPersistentFields", type := (.array (.object "java/io/ObjectStreamField")), accessFlags := 26, slot := 2, constantValue := 0 }, { name := "REPL", type := .char, accessFlags := 26, slot := 3, constantValue := 0 }, { name := "CASE_INSENSITIVE_ORDER", type := (.object "java/util/Comparator"), accessFlags := 25, slot := 4, constantValue := 0 }, { name := "LATIN1", type := .byte, accessFlags := 24, slot := 5, constantValue := 0 }, { name := "UTF16", type := .byte, accessFlags := 24, slot := 6, constantValue := 0 }]
  methods := #[k7m0, k7m1, k7m2, k7m3, k7m4, k7m5, k7m6, k7m7]
  instanceTypes := #[(.array .byte), .byte, .int, .boolean]
  staticTypes := #[.long, .boolean, (.array (.object "java/io/ObjectStreamField")), .char, (.object "java/util/Comparator"), .byte, .byte]
  resolved := Array.replicate 1451 none
  statics := some 0 }

def pool8 : Array CpInfo := pool [(6, .class_ 8), (1, u "java/lang/Object"), (0, u "<init>"), (0, u "()V"), (1, .class_ 14), (1, u "java/lang/StringUTF16"), (31, u "$assertionsDisabled"), (0, u "Z"), (13, u "HI_BYTE_SHIFT"), (0, u "I"), (2, u "LO_BYTE_SHIFT"), (49, .methodref 12 116), (0, .nameAndType 117 118), (0, u "compress"), (0, u "([CI[BII)I"), (3, u "([CII)[B"), (138, u "coderFromArrayLen"), (0, u "([BI)B"), (106, .class_ 371), (1, u "java/lang/StringUTF16$LinesSpliterator"), (58, u "MAX_LENGTH"), (196, .class_ 628), (0, u "java/lang/StringUTF16$CodePointsSpliterator"), (0, .class_ 630), (0, u "java/lang/StringUTF16$CharsSpliterator")] 4

def k8m0 : Method := { name := "<init>", desc := "()V", sig := { parameters := [], returnType := none }, accessFlags := 0, code := none }
def k8c1 : Code := { maxStack := 2, maxLocals := 2, code := jdk_52_method_15_code, exceptionTable := #[], attributes := #[] }
def k8m1 : Method := { name := "coderFromArrayLen", desc := "([BI)B", sig := { parameters := [(.array .byte), .int], returnType := some .byte }, accessFlags := 8, code := some k8c1 }
def k8c2 : Code := { maxStack := 5, maxLocals := 6, code := jdk_52_method_16_code, exceptionTable := #[], attributes := #[] }
def k8m2 : Method := { name := "compress", desc := "([CII)[B", sig := { parameters := [(.array .char), .int, .int], returnType := some (.array .byte) }, accessFlags := 9, code := some k8c2 }
def k8c3 : Code := { maxStack := 3, maxLocals := 7, code := jdk_52_method_21_code, exceptionTable := #[], attributes := #[] }
def k8m3 : Method := { name := "compress", desc := "([CI[BII)I", sig := { parameters := [(.array .char), .int, (.array .byte), .int, .int], returnType := some .int }, accessFlags := 9, code := some k8c3 }
/-- java/lang/StringUTF16 -/
def k8 : Class := { plain "java/lang/StringUTF16" (some 0) with
  accessFlags := 48
  interfaces := #[]
  cf := some (fileOf pool8 12 #[.nestMembers #[627, 629, 369]] #[{ accessFlags := 0, nameIndex := 9, descriptorIndex := 10, attributes := #[] }, { accessFlags := 8, nameIndex := 261, descriptorIndex := 262, attributes := #[] }, { accessFlags := 9, nameIndex := 117, descriptorIndex := 122, attributes := #[] }, { accessFlags := 9, nameIndex := 117, descriptorIndex := 118, attributes := #[] }] 48 6 #[] #[{ accessFlags := 26, nameIndex := 61, descriptorIndex := 62, attributes := #[] }, { accessFlags := 26, nameIndex := 65, descriptorIndex := 62, attributes := #[] }, { accessFlags := 24, nameIndex := 430, descriptorIndex := 62, attributes := #[] }, { accessFlags := 4120, nameIndex := 46, descriptorIndex := 47, attributes := #[] }])
  fields := #[{ name := "HI_BYTE_SHIFT", type := .int, accessFlags := 26, slot := 0, constantValue := 0 }, { name := "LO_BYTE_SHIFT", type := .int, accessFlags := 26, slot := 1, constantValue := 0 }, { name := "MAX_LENGTH", type := .int, accessFlags := 24, slot := 2, constantValue := 0 }, { name := "$assertionsDisabled", type := .boolean, accessFlags := 4120, slot := 3, constantValue := 0 }]
  methods := #[k8m0, k8m1, k8m2, k8m3]
  instanceTypes := #[]
  staticTypes := #[.int, .int, .int, .boolean]
  resolved := Array.replicate 635 none
  statics := none }

def pool9 : Array CpInfo := pool [(1, .methodref 2 3), (0, .class_ 4), (0, .nameAndType 5 6), (0, u "java/lang/Object"), (0, u "<init>"), (0, u "()V"), (0, .fieldref 8 9), (0, .class_ 10), (0, .nameAndType 11 12), (0, u "java/lang/Throwable"), (0, u "cause"), (0, u "Ljava/lang/Throwable;"), (0, .fieldref 8 14), (0, .nameAndType 15 16), (0, u "UNASSIGNED_STACK"), (0, u "[Ljava/lang/StackTraceElement;"), (0, .fieldref 8 18), (0, .nameAndType 19 16), (0, u "stackTrace"), (0, .fieldref 8 21), (0, .nameAndType 22 23), (0, u "SUPPRESSED_SENTINEL"), (0, u "Ljava/util/List;"), (0, .fieldref 8 25), (0, .nameAndType 26 23), (0, u "suppressedExceptions"), (0, .methodref 8 28), (0, .nameAndType 29 30), (0, u "fillInStackTrace"), (0, u "()Ljava/lang/Throwable;"), (0, .fieldref 8 32), (0, .nameAndType 33 34), (0, u "detailMessage"), (0, u "Ljava/lang/String;"), (58, .class_ 94), (0, u "java/lang/Throwable$WrappedPrintStream"), (6, .class_ 103), (1, u "java/lang/Throwable$PrintStreamOrWriter"), (61, u "$assertionsDisabled"), (0, u "Z"), (26, .class_ 194), (0, u "java/lang/Throwable$WrappedPrintWriter"), (3, .fieldref 8 199), (0, .nameAndType 200 201), (0, u "backtrace"), (0, u "Ljava/lang/Object;"), (0, .methodref 8 203), (0, .nameAndType 29 204), (0, u "(I)Ljava/lang/Throwable;"), (6, u "depth"), (0, u "I"), (10, u "(Ljava/lang/String;)V"), (45, .class_ 271), (1, u "java/lang/Throwable$SentinelHolder"), (32, u "EMPTY_THROWABLE_ARRAY"), (0, u "[Ljava/lang/Throwable;"), (12, .class_ 319), (0, u "java/io/Serializable"), (0, u "serialVersionUID"), (0, u "J"), (5, u "NULL_CAUSE_MESSAGE"), (0, u "SELF_SUPPRESSION_MESSAGE"), (0, u "CAUSE_CAPTION"), (0, u "SUPPRESSED_CAPTION")] 73

def k9c0 : Code := { maxStack := 2, maxLocals := 1, code := jdk_78_method_1_code, exceptionTable := #[], attributes := #[] }
def k9m0 : Method := { name := "<init>", desc := "()V", sig := { parameters := [], returnType := none }, accessFlags := 1, code := some k9c0 }
def k9c1 : Code := { maxStack := 2, maxLocals := 2, code := jdk_78_method_2_code, exceptionTable := #[], attributes := #[] }
def k9m1 : Method := { name := "<init>", desc := "(Ljava/lang/String;)V", sig := { parameters := [(.object "java/lang/String")], returnType := none }, accessFlags := 1, code := some k9c1 }
def k9c2 : Code := { maxStack := 2, maxLocals := 1, code := ⟨#[0x2a, 0xb4, 0x00, 0x11, 0xc7, 0x00, 0x0a, 0x2a, 0xb4, 0x00, 0xc6, 0xc6, 0x00, 0x10, 0x2a, 0x03, 0xb6, 0x00, 0xca, 0x57, 0x2a, 0xb2, 0x00, 0x0d, 0xb5, 0x00, 0x11, 0x2a, 0xb0]⟩, exceptionTable := #[], attributes := #[] }
def k9m2 : Method := { name := "fillInStackTrace", desc := "()Ljava/lang/Throwable;", sig := { parameters := [], returnType := some (.object "java/lang/Throwable") }, accessFlags := 33, code := some k9c2 }
def k9m3 : Method := { name := "fillInStackTrace", desc := "(I)Ljava/lang/Throwable;", sig := { parameters := [.int], returnType := some (.object "java/lang/Throwable") }, accessFlags := 258, code := none }
/-- java/lang/Throwable -/
def k9 : Class := { plain "java/lang/Throwable" (some 0) with
  accessFlags := 33
  interfaces := #[2]
  cf := some (fileOf pool9 8 #[.nestMembers #[193, 93, 101, 269]] #[{ accessFlags := 1, nameIndex := 5, descriptorIndex := 6, attributes := #[] }, { accessFlags := 1, nameIndex := 5, descriptorIndex := 223, attributes := #[] }, { accessFlags := 33, nameIndex := 29, descriptorIndex := 30, attributes := #[] }, { accessFlags := 258, nameIndex := 29, descriptorIndex := 204, attributes := #[] }] 33 2 #[318] #[{ accessFlags := 26, nameIndex := 320, descriptorIndex := 321, attributes := #[] }, { accessFlags := 130, nameIndex := 200, descriptorIndex := 201, attributes := #[] }, { accessFlags := 2, nameIndex := 33, descriptorIndex := 34, attributes := #[] }, { accessFlags := 26, nameIndex := 15, descriptorIndex := 16, attributes := #[] }, { accessFlags := 2, nameIndex := 11, descriptorIndex := 12, attributes := #[] }, { accessFlags := 2, nameIndex := 19, descriptorIndex := 16, attributes := #[] }, { accessFlags := 130, nameIndex := 211, descriptorIndex := 212, attributes := #[] }, { accessFlags := 26, nameIndex := 22, descriptorIndex := 23, attributes := #[] }, { accessFlags := 2, nameIndex := 26, descriptorIndex := 23, attributes := #[] }, { accessFlags := 26, nameIndex := 327, descriptorIndex := 34, attributes := #[] }, { accessFlags := 26, nameIndex := 328, descriptorIndex := 34, attributes := #[] }, { accessFlags := 26, nameIndex := 329, descriptorIndex := 34, attributes := #[] }, { accessFlags := 26, nameIndex := 330, descriptorIndex := 34, attributes := #[] }, { accessFlags := 26, nameIndex := 304, descriptorIndex := 305, attributes := #[] }, { accessFlags := 4120, nameIndex := 165, descriptorIndex := 166, attributes := #[] }])
  fields := #[{ name := "serialVersionUID", type := .long, accessFlags := 26, slot := 0, constantValue := 0 }, { name := "backtrace", type := (.object "java/lang/Object"), accessFlags := 130, slot := 0, constantValue := 0 }, { name := "detailMessage", type := (.object "java/lang/String"), accessFlags := 2, slot := 1, constantValue := 0 }, { name := "UNASSIGNED_STACK", type := (.array (.object "java/lang/StackTraceElement")), accessFlags := 26, slot := 1, constantValue := 0 }, { name := "cause", type := (.object "java/lang/Throwable"), accessFlags := 2, slot := 2, constantValue := 0 }, { name := "stackTrace", type := (.array (.object "java/lang/StackTraceElement")), accessFlags := 2, slot := 3, constantValue := 0 }, { name := "depth", type := .int, accessFlags := 130, slot := 4, constantValue := 0 }, { name := "SUPPRESSED_SENTINEL", type := (.object "java/util/List"), accessFlags := 26, slot := 2, constantValue := 0 }, { name := "suppressedExceptions", type := (.object "java/util/List"), accessFlags := 2, slot := 5, constantValue := 0 }, { name := "NULL_CAUSE_MESSAGE", type := (.object "java/lang/String"), accessFlags := 26, slot := 3, constantValue := 0 }, { name := "SELF_SUPPRESSION_MESSAGE", type := (.object "java/lang/String"), accessFlags := 26, slot := 4, constantValue := 0 }, { name := "CAUSE_CAPTION", type := (.object "java/lang/String"), accessFlags := 26, slot := 5, constantValue := 0 }, { name := "SUPPRESSED_CAPTION", type := (.object "java/lang/String"), accessFlags := 26, slot := 6, constantValue := 0 }, { name := "EMPTY_THROWABLE_ARRAY", type := (.array (.object "java/lang/Throwable")), accessFlags := 26, slot := 7, constantValue := 0 }, { name := "$assertionsDisabled", type := .boolean, accessFlags := 4120, slot := 8, constantValue := 0 }]
  methods := #[k9m0, k9m1, k9m2, k9m3]
  instanceTypes := #[(.object "java/lang/Object"), (.object "java/lang/String"), (.object "java/lang/Throwable"), (.array (.object "java/lang/StackTraceElement")), .int, (.object "java/util/List")]
  staticTypes := #[.long, (.array (.object "java/lang/StackTraceElement")), (.object "java/util/List"), (.object "java/lang/String"), (.object "java/lang/String"), (.object "java/lang/String"), (.object "java/lang/String"), (.array (.object "java/lang/Throwable")), .boolean]
  resolved := Array.replicate 404 none
  statics := some 1 }

def pool10 : Array CpInfo := pool [(2, .class_ 4), (1, u "java/lang/Throwable"), (0, u "<init>"), (0, u "()V"), (0, .methodref 2 8), (0, .nameAndType 5 9), (0, u "(Ljava/lang/String;)V"), (9, .class_ 20), (0, u "java/lang/Exception"), (0, u "serialVersionUID"), (0, u "J")] 17

def k10m0 : Method := { name := "<init>", desc := "()V", sig := { parameters := [], returnType := none }, accessFlags := 1, code := none }
def k10c1 : Code := { maxStack := 2, maxLocals := 2, code := jdk_59_method_2_code, exceptionTable := #[], attributes := #[] }
def k10m1 : Method := { name := "<init>", desc := "(Ljava/lang/String;)V", sig := { parameters := [(.object "java/lang/String")], returnType := none }, accessFlags := 1, code := some k10c1 }
/-- java/lang/Exception -/
def k10 : Class := { plain "java/lang/Exception" (some 9) with
  accessFlags := 33
  interfaces := #[]
  cf := some (fileOf pool10 19 #[] #[{ accessFlags := 1, nameIndex := 5, descriptorIndex := 6, attributes := #[] }, { accessFlags := 1, nameIndex := 5, descriptorIndex := 9, attributes := #[] }] 33 2 #[] #[{ accessFlags := 24, nameIndex := 21, descriptorIndex := 22, attributes := #[] }])
  fields := #[{ name := "serialVersionUID", type := .long, accessFlags := 24, slot := 0, constantValue := 0 }]
  methods := #[k10m0, k10m1]
  instanceTypes := #[(.object "java/lang/Object"), (.object "java/lang/String"), (.object "java/lang/Throwable"), (.array (.object "java/lang/StackTraceElement")), .int, (.object "java/util/List")]
  staticTypes := #[.long]
  resolved := Array.replicate 40 none
  statics := none }

def pool11 : Array CpInfo := pool [(1, .methodref 2 3), (0, .class_ 4), (0, .nameAndType 5 6), (0, u "java/lang/Exception"), (0, u "<init>"), (0, u "(Ljava/lang/String;)V"), (0, .fieldref 8 9), (0, .class_ 10), (0, .nameAndType 11 12), (0, u "com/example/precedence/precedence/MalformedMemberException"), (0, u "file"), (0, u "Ljava/nio/file/Path;"), (0, .fieldref 8 14), (0, .nameAndType 15 16), (0, u "line"), (0, u "I"), (0, .fieldref 8 18), (0, .nameAndType 19 20), (0, u "reason"), (0, u "Ljava/lang/String;"), (0, .class_ 22), (0, u "java/lang/StringBuilder"), (0, .methodref 21 24), (0, .nameAndType 5 25), (0, u "()V"), (0, .methodref 21 27), (0, .nameAndType 28 29), (0, u "append"), (0, u "(Ljava/lang/String;)Ljava/lang/StringBuilder;"), (0, .string 31), (0, u ":"), (0, .methodref 21 33), (0, .nameAndType 28 34), (0, u "(I)Ljava/lang/StringBuilder;"), (0, .string 36), (0, u ": "), (0, .methodref 21 38), (0, .nameAndType 39 40), (0, u "toString"), (0, u "()Ljava/lang/String;"), (0, .methodref 8 42), (0, .nameAndType 5 43), (0, u "(Ljava/nio/file/Path;Ljava/lang/String;ILjava/lang/String;)V"), (0, .methodref 45 46), (0, .class_ 47), (0, .nameAndType 48 49), (0, u "java/util/Optional"), (0, u "ofNullable"), (0, u "(Ljava/lang/Object;)Ljava/util/Optional;"), (0, .methodref 51 52), (0, .class_ 53), (0, .nameAndType 54 55), (0, u "java/util/OptionalInt"), (0, u "empty"), (0, u "()Ljava/util/OptionalInt;"), (4, u "serialVersionUID"), (0, u "J"), (5, u "at"), (0, u "(Ljava/nio/file/Path;Ljava/lang/String;I)Lcom/example/precedence/precedence/MalformedMemberException;"), (0, u "()Ljava/util/Optional;")] 5

def k11c0 : Code := { maxStack := 2, maxLocals := 2, code := prog_14_method_1_code, exceptionTable := #[], attributes := #[] }
def k11m0 : Method := { name := "<init>", desc := "(Ljava/lang/String;)V", sig := { parameters := [(.object "java/lang/String")], returnType := none }, accessFlags := 1, code := some k11c0 }
def k11c1 : Code := { maxStack := 3, maxLocals := 5, code := prog_14_method_2_code, exceptionTable := #[], attributes := #[] }
def k11m1 : Method := { name := "<init>", desc := "(Ljava/nio/file/Path;Ljava/lang/String;ILjava/lang/String;)V", sig := { parameters := [(.object "java/nio/file/Path"), (.object "java/lang/String"), .int, (.object "java/lang/String")], returnType := none }, accessFlags := 2, code := some k11c1 }
def k11c2 : Code := { maxStack := 6, maxLocals := 4, code := prog_14_method_3_code, exceptionTable := #[], attributes := #[] }
def k11m2 : Method := { name := "at", desc := "(Ljava/nio/file/Path;Ljava/lang/String;I)Lcom/example/precedence/precedence/MalformedMemberException;", sig := { parameters := [(.object "java/nio/file/Path"), (.object "java/lang/String"), .int], returnType := some (.object "com/example/precedence/precedence/MalformedMemberException") }, accessFlags := 0, code := some k11c2 }
def k11c3 : Code := { maxStack := 1, maxLocals := 1, code := prog_14_method_4_code, exceptionTable := #[], attributes := #[] }
def k11m3 : Method := { name := "file", desc := "()Ljava/util/Optional;", sig := { parameters := [], returnType := some (.object "java/util/Optional") }, accessFlags := 1, code := some k11c3 }
def k11c4 : Code := { maxStack := 1, maxLocals := 1, code := prog_14_method_5_code, exceptionTable := #[], attributes := #[] }
def k11m4 : Method := { name := "line", desc := "()Ljava/util/OptionalInt;", sig := { parameters := [], returnType := some (.object "java/util/OptionalInt") }, accessFlags := 1, code := some k11c4 }
/-- com/example/precedence/precedence/MalformedMemberException -/
def k11 : Class := { plain "com/example/precedence/precedence/MalformedMemberException" (some 10) with
  accessFlags := 49
  interfaces := #[]
  cf := some (fileOf pool11 8 #[] #[{ accessFlags := 1, nameIndex := 5, descriptorIndex := 6, attributes := #[] }, { accessFlags := 2, nameIndex := 5, descriptorIndex := 43, attributes := #[] }, { accessFlags := 0, nameIndex := 67, descriptorIndex := 68, attributes := #[] }, { accessFlags := 1, nameIndex := 11, descriptorIndex := 69, attributes := #[] }, { accessFlags := 1, nameIndex := 15, descriptorIndex := 55, attributes := #[] }] 49 2 #[] #[{ accessFlags := 26, nameIndex := 60, descriptorIndex := 61, attributes := #[] }, { accessFlags := 146, nameIndex := 11, descriptorIndex := 12, attributes := #[] }, { accessFlags := 18, nameIndex := 15, descriptorIndex := 16, attributes := #[] }, { accessFlags := 18, nameIndex := 19, descriptorIndex := 20, attributes := #[] }])
  fields := #[{ name := "serialVersionUID", type := .long, accessFlags := 26, slot := 0, constantValue := 0 }, { name := "file", type := (.object "java/nio/file/Path"), accessFlags := 146, slot := 6, constantValue := 0 }, { name := "line", type := .int, accessFlags := 18, slot := 7, constantValue := 0 }, { name := "reason", type := (.object "java/lang/String"), accessFlags := 18, slot := 8, constantValue := 0 }]
  methods := #[k11m0, k11m1, k11m2, k11m3, k11m4]
  instanceTypes := #[(.object "java/lang/Object"), (.object "java/lang/String"), (.object "java/lang/Throwable"), (.array (.object "java/lang/StackTraceElement")), .int, (.object "java/util/List"), (.object "java/nio/file/Path"), .int, (.object "java/lang/String")]
  staticTypes := #[.long]
  resolved := Array.replicate 75 none
  statics := none }

def pool12 : Array CpInfo := pool [(1, .class_ 2), (0, u "java/lang/Appendable"), (0, .class_ 4), (0, u "java/lang/Object")] 9

/-- java/lang/Appendable -/
def k12 : Class := { plain "java/lang/Appendable" (some 0) with
  accessFlags := 1537
  interfaces := #[]
  cf := some (fileOf pool12 1 #[] #[] 1537 3 #[] #[])
  fields := #[]
  methods := #[]
  instanceTypes := #[]
  staticTypes := #[]
  resolved := Array.replicate 14 none
  statics := none }

def pool13 : Array CpInfo := pool [(1, .class_ 2), (0, u "java/lang/String"), (0, .methodref 4 5), (0, .class_ 6), (0, .nameAndType 7 8), (0, u "java/lang/Object"), (0, u "<init>"), (0, u "()V"), (1, .class_ 12), (1, u "java/lang/AbstractStringBuilder"), (0, u "EMPTYVALUE"), (0, u "[B"), (0, .fieldref 10 16), (0, .nameAndType 17 14), (0, u "value"), (0, .fieldref 1 19), (0, .nameAndType 20 21), (0, u "COMPACT_STRINGS"), (0, u "Z"), (0, .fieldref 10 23), (0, .nameAndType 24 25), (0, u "coder"), (0, u "B"), (6, .methodref 1 33), (0, .nameAndType 34 35), (0, u "length"), (0, u "()I"), (0, .class_ 37), (0, u "java/lang/Integer"), (1, .integer 2147483647), (0, .methodref 1 41), (0, .nameAndType 24 42), (0, u "()B"), (2, u "append"), (0, u "(Ljava/lang/String;)Ljava/lang/AbstractStringBuilder;"), (1, .class_ 49), (0, u "java/lang/CharSequence"), (19, u "(Ljava/lang/String;)V"), (5, u "maybeLatin1"), (3, .fieldref 10 80), (0, .nameAndType 81 82), (0, u "count"), (0, u "I"), (0, .methodref 10 84), (0, .nameAndType 85 86), (0, u "isLatin1"), (0, u "()Z"), (13, .methodref 10 101), (0, .nameAndType 102 103), (0, u "ensureCapacityInternal"), (0, u "(I)V"), (0, .methodref 10 105), (0, .nameAndType 106 107), (0, u "newCapacity"), (0, u "(I)I"), (0, .methodref 109 110), (0, .class_ 111), (0, .nameAndType 112 113), (0, u "java/util/Arrays"), (0, u "copyOf"), (0, u "([BI)[B"), (0, .methodref 115 116), (0, .class_ 117), (0, .nameAndType 118 119), (0, u "jdk/internal/util/ArraysSupport"), (0, u "newLength"), (0, u "(III)I"), (68, u "getChars"), (19, .methodref 10 209), (0, .nameAndType 210 211), (0, u "putStringAt"), (0, u "(ILjava/lang/String;)V"), (5, u "inflateIfNeededFor"), (2, .nameAndType 221 222), (0, u "getBytes"), (0, u "([BIB)V"), (22, .methodref 36 246), (0, .nameAndType 247 107), (0, u "stringSize"), (0, .methodref 36 249), (0, .nameAndType 188 250), (0, u "(II[B)I"), (146, .methodref 10 398), (0, .nameAndType 217 69), (0, .methodref 1 220), (3, u "()[B"), (40, .class_ 445), (0, u "java/lang/Appendable"), (65, u "(I)Ljava/lang/AbstractStringBuilder;"), (40, u "getValue")] 56

def k13m0 : Method := { name := "<init>", desc := "()V", sig := { parameters := [], returnType := none }, accessFlags := 0, code := none }
def k13c1 : Code := { maxStack := 2, maxLocals := 2, code := jdk_68_method_2_code, exceptionTable := #[], attributes := #[] }
def k13m1 : Method := { name := "<init>", desc := "(I)V", sig := { parameters := [.int], returnType := none }, accessFlags := 0, code := some k13c1 }
def k13c2 : Code := { maxStack := 1, maxLocals := 1, code := jdk_68_method_6_code, exceptionTable := #[], attributes := #[] }
def k13m2 : Method := { name := "length", desc := "()I", sig := { parameters := [], returnType := some .int }, accessFlags := 1, code := some k13c2 }
def k13c3 : Code := { maxStack := 4, maxLocals := 3, code := jdk_68_method_9_code, exceptionTable := #[], attributes := #[] }
def k13m3 : Method := { name := "ensureCapacityInternal", desc := "(I)V", sig := { parameters := [.int], returnType := none }, accessFlags := 2, code := some k13c3 }
def k13c4 : Code := { maxStack := 5, maxLocals := 6, code := jdk_68_method_10_code, exceptionTable := #[], attributes := #[] }
def k13m4 : Method := { name := "newCapacity", desc := "(I)I", sig := { parameters := [.int], returnType := some .int }, accessFlags := 2, code := some k13c4 }
def k13c5 : Code := { maxStack := 3, maxLocals := 3, code := jdk_68_method_22_code, exceptionTable := #[], attributes := #[] }
def k13m5 : Method := { name := "append", desc := "(Ljava/lang/String;)Ljava/lang/AbstractStringBuilder;", sig := { parameters := [(.object "java/lang/String")], returnType := some (.object "java/lang/AbstractStringBuilder") }, accessFlags := 1, code := some k13c5 }
def k13c6 : Code := { maxStack := 4, maxLocals := 4, code := jdk_68_method_32_code, exceptionTable := #[], attributes := #[] }
def k13m6 : Method := { name := "append", desc := "(I)Ljava/lang/AbstractStringBuilder;", sig := { parameters := [.int], returnType := some (.object "java/lang/AbstractStringBuilder") }, accessFlags := 1, code := some k13c6 }
def k13c7 : Code := { maxStack := 1, maxLocals := 1, code := jdk_68_method_64_code, exceptionTable := #[], attributes := #[] }
def k13m7 : Method := { name := "getValue", desc := "()[B", sig := { parameters := [], returnType := some (.array .byte) }, accessFlags := 16, code := some k13c7 }
def k13c8 : Code := { maxStack := 1, maxLocals := 1, code := jdk_68_method_68_code, exceptionTable := #[], attributes := #[] }
def k13m8 : Method := { name := "isLatin1", desc := "()Z", sig := { parameters := [], returnType := some .boolean }, accessFlags := 16, code := some k13c8 }
def k13c9 : Code := { maxStack := 2, maxLocals := 2, code := jdk_68_method_71_code, exceptionTable := #[], attributes := #[] }
def k13m9 : Method := { name := "inflateIfNeededFor", desc := "(Ljava/lang/String;)V", sig := { parameters := [(.object "java/lang/String")], returnType := none }, accessFlags := 2, code := some k13c9 }
def k13c10 : Code := { maxStack := 4, maxLocals := 3, code := jdk_68_method_73_code, exceptionTable := #[], attributes := #[] }
def k13m10 : Method := { name := "putStringAt", desc := "(ILjava/lang/String;)V", sig := { parameters := [.int, (.object "java/lang/String")], returnType := none }, accessFlags := 2, code := some k13c10 }
/-- java/lang/AbstractStringBuilder -/
def k13 : Class := { plain "java/lang/AbstractStringBuilder" (some 0) with
  accessFlags := 1056
  interfaces := #[12, 4]
  cf := some (fileOf pool13 10 #[] #[{ accessFlags := 0, nameIndex := 7, descriptorIndex := 8, attributes := #[] }, { accessFlags := 0, nameIndex := 7, descriptorIndex := 103, attributes := #[] }, { accessFlags := 1, nameIndex := 34, descriptorIndex := 35, attributes := #[] }, { accessFlags := 2, nameIndex := 102, descriptorIndex := 103, attributes := #[] }, { accessFlags := 2, nameIndex := 106, descriptorIndex := 107, attributes := #[] }, { accessFlags := 1, nameIndex := 45, descriptorIndex := 46, attributes := #[] }, { accessFlags := 1, nameIndex := 45, descriptorIndex := 511, attributes := #[] }, { accessFlags := 16, nameIndex := 552, descriptorIndex := 403, attributes := #[] }, { accessFlags := 16, nameIndex := 85, descriptorIndex := 86, attributes := #[] }, { accessFlags := 2, nameIndex := 217, descriptorIndex := 69, attributes := #[] }, { accessFlags := 2, nameIndex := 210, descriptorIndex := 211, attributes := #[] }] 1056 4 #[444, 48] #[{ accessFlags := 0, nameIndex := 17, descriptorIndex := 14, attributes := #[] }, { accessFlags := 0, nameIndex := 24, descriptorIndex := 25, attributes := #[] }, { accessFlags := 0, nameIndex := 75, descriptorIndex := 21, attributes := #[] }, { accessFlags := 0, nameIndex := 81, descriptorIndex := 82, attributes := #[] }, { accessFlags := 26, nameIndex := 13, descriptorIndex := 14, attributes := #[] }])
  fields := #[{ name := "value", type := (.array .byte), accessFlags := 0, slot := 0, constantValue := 0 }, { name := "coder", type := .byte, accessFlags := 0, slot := 1, constantValue := 0 }, { name := "maybeLatin1", type := .boolean, accessFlags := 0, slot := 2, constantValue := 0 }, { name := "count", type := .int, accessFlags := 0, slot := 3, constantValue := 0 }, { name := "EMPTYVALUE", type := (.array .byte), accessFlags := 26, slot := 0, constantValue := 0 }]
  methods := #[k13m0, k13m1, k13m2, k13m3, k13m4, k13m5, k13m6, k13m7, k13m8, k13m9, k13m10]
  instanceTypes := #[(.array .byte), .byte, .boolean, .int]
  staticTypes := #[(.array .byte)]
  resolved := Array.replicate 609 none
  statics := none }

def pool14 : Array CpInfo := pool [(1, .methodref 2 3), (0, .class_ 4), (0, .nameAndType 5 6), (0, u "java/lang/AbstractStringBuilder"), (0, u "<init>"), (0, u "(I)V"), (11, .class_ 20), (1, u "java/lang/String"), (3, .class_ 26), (1, u "java/lang/StringBuilder"), (0, u "append"), (0, u "(Ljava/lang/String;)Ljava/lang/StringBuilder;"), (0, .methodref 2 30), (0, .nameAndType 27 31), (0, u "(Ljava/lang/String;)Ljava/lang/AbstractStringBuilder;"), (21, .methodref 2 54), (0, .nameAndType 27 55), (0, u "(I)Ljava/lang/AbstractStringBuilder;"), (81, .methodref 18 138), (0, .nameAndType 5 139), (0, u "(Ljava/lang/StringBuilder;)V"), (5, u "()V"), (10, u "()I"), (111, u "(I)Ljava/lang/StringBuilder;"), (74, .methodref 2 344), (0, .nameAndType 345 156), (0, u "length"), (3, .class_ 350), (0, u "java/lang/Appendable"), (0, .class_ 352), (0, u "java/io/Serializable"), (0, .class_ 354), (0, u "java/lang/Comparable"), (0, .class_ 356), (0, u "java/lang/CharSequence"), (0, u "serialVersionUID"), (0, u "J"), (40, u "toString"), (0, u "()Ljava/lang/String;")] 21

def k14c0 : Code := { maxStack := 2, maxLocals := 1, code := jdk_67_method_1_code, exceptionTable := #[], attributes := #[] }
def k14m0 : Method := { name := "<init>", desc := "()V", sig := { parameters := [], returnType := none }, accessFlags := 1, code := some k14c0 }
def k14c1 : Code := { maxStack := 2, maxLocals := 2, code := jdk_67_method_7_code, exceptionTable := #[], attributes := #[] }
def k14m1 : Method := { name := "append", desc := "(Ljava/lang/String;)Ljava/lang/StringBuilder;", sig := { parameters := [(.object "java/lang/String")], returnType := some (.object "java/lang/StringBuilder") }, accessFlags := 1, code := some k14c1 }
def k14c2 : Code := { maxStack := 2, maxLocals := 2, code := jdk_67_method_15_code, exceptionTable := #[], attributes := #[] }
def k14m2 : Method := { name := "append", desc := "(I)Ljava/lang/StringBuilder;", sig := { parameters := [.int], returnType := some (.object "java/lang/StringBuilder") }, accessFlags := 1, code := some k14c2 }
def k14c3 : Code := { maxStack := 3, maxLocals := 1, code := jdk_67_method_42_code, exceptionTable := #[], attributes := #[] }
def k14m3 : Method := { name := "toString", desc := "()Ljava/lang/String;", sig := { parameters := [], returnType := some (.object "java/lang/String") }, accessFlags := 1, code := some k14c3 }
def k14c4 : Code := { maxStack := 1, maxLocals := 1, code := jdk_67_method_93_code, exceptionTable := #[], attributes := #[] }
def k14m4 : Method := { name := "length", desc := "()I", sig := { parameters := [], returnType := some .int }, accessFlags := 4161, code := some k14c4 }
/-- java/lang/StringBuilder -/
def k14 : Class := { plain "java/lang/StringBuilder" (some 13) with
  accessFlags := 49
  interfaces := #[12, 2, 3, 4]
  cf := some (fileOf pool14 24 #[] #[{ accessFlags := 1, nameIndex := 5, descriptorIndex := 145, attributes := #[] }, { accessFlags := 1, nameIndex := 27, descriptorIndex := 28, attributes := #[] }, { accessFlags := 1, nameIndex := 27, descriptorIndex := 268, attributes := #[] }, { accessFlags := 1, nameIndex := 399, descriptorIndex := 400, attributes := #[] }, { accessFlags := 4161, nameIndex := 345, descriptorIndex := 156, attributes := #[] }] 49 2 #[349, 351, 353, 355] #[{ accessFlags := 24, nameIndex := 357, descriptorIndex := 358, attributes := #[] }])
  fields := #[{ name := "serialVersionUID", type := .long, accessFlags := 24, slot := 0, constantValue := 0 }]
  methods := #[k14m0, k14m1, k14m2, k14m3, k14m4]
  instanceTypes := #[(.array .byte), .byte, .boolean, .int]
  staticTypes := #[.long]
  resolved := Array.replicate 422 none
  statics := none }

def pool15 : Array CpInfo := pool [(2, .class_ 4), (1, u "java/lang/Object"), (0, u "<init>"), (0, u "()V"), (1, .class_ 10), (1, u "java/lang/System"), (0, u "allowSecurityManager"), (0, u "I"), (16, u "cons"), (0, u "Ljava/io/Console;"), (77, .class_ 110), (1, u "java/lang/System$CallersHolder"), (43, u "initialErrStream"), (0, u "Ljava/io/PrintStream;"), (19, u "security"), (0, u "Ljava/lang/SecurityManager;"), (31, .class_ 209), (0, u "java/lang/System$1"), (7, u "props"), (0, u "Ljava/util/Properties;"), (2, u "lineSeparator"), (0, u "Ljava/lang/String;"), (96, .class_ 321), (1, u "java/lang/System$LoggerFinder"), (5, .class_ 328), (0, u "java/lang/System$Logger"), (67, u "err"), (2, u "out"), (91, u "notSupportedJnuEncoding"), (15, u "in"), (17, u "initialIn"), (0, u "Ljava/io/InputStream;"), (35, u "bootLayer"), (0, u "Ljava/lang/ModuleLayer;"), (99, .class_ 664), (0, u "java/lang/System$2"), (9, u "NEVER"), (2, u "MAYBE"), (49, u "arraycopy"), (0, u "(Ljava/lang/Object;ILjava/lang/Object;II)V"), (72, .class_ 802), (0, u "java/lang/System$Logger$Level")] 31

def k15m0 : Method := { name := "<init>", desc := "()V", sig := { parameters := [], returnType := none }, accessFlags := 2, code := none }
def k15m1 : Method := { name := "arraycopy", desc := "(Ljava/lang/Object;ILjava/lang/Object;II)V", sig := { parameters := [(.object "java/lang/Object"), .int, (.object "java/lang/Object"), .int, .int], returnType := none }, accessFlags := 265, code := none }
/-- java/lang/System -/
def k15 : Class := { plain "java/lang/System" (some 0) with
  accessFlags := 49
  interfaces := #[]
  cf := some (fileOf pool15 8 #[.nestMembers #[319, 327, 801, 108, 663, 208]] #[{ accessFlags := 2, nameIndex := 5, descriptorIndex := 6, attributes := #[] }, { accessFlags := 265, nameIndex := 727, descriptorIndex := 728, attributes := #[] }] 49 2 #[] #[{ accessFlags := 25, nameIndex := 507, descriptorIndex := 526, attributes := #[] }, { accessFlags := 25, nameIndex := 399, descriptorIndex := 155, attributes := #[] }, { accessFlags := 25, nameIndex := 396, descriptorIndex := 155, attributes := #[] }, { accessFlags := 10, nameIndex := 525, descriptorIndex := 526, attributes := #[] }, { accessFlags := 26, nameIndex := 674, descriptorIndex := 12, attributes := #[] }, { accessFlags := 26, nameIndex := 677, descriptorIndex := 12, attributes := #[] }, { accessFlags := 10, nameIndex := 11, descriptorIndex := 12, attributes := #[] }, { accessFlags := 74, nameIndex := 175, descriptorIndex := 176, attributes := #[] }, { accessFlags := 10, nameIndex := 491, descriptorIndex := 222, attributes := #[] }, { accessFlags := 74, nameIndex := 29, descriptorIndex := 30, attributes := #[] }, { accessFlags := 74, nameIndex := 154, descriptorIndex := 155, attributes := #[] }, { accessFlags := 10, nameIndex := 217, descriptorIndex := 218, attributes := #[] }, { accessFlags := 10, nameIndex := 221, descriptorIndex := 222, attributes := #[] }, { accessFlags := 8, nameIndex := 562, descriptorIndex := 563, attributes := #[] }])
  fields := #[{ name := "in", type := (.object "java/io/InputStream"), accessFlags := 25, slot := 0, constantValue := 0 }, { name := "out", type := (.object "java/io/PrintStream"), accessFlags := 25, slot := 1, constantValue := 0 }, { name := "err", type := (.object "java/io/PrintStream"), accessFlags := 25, slot := 2, constantValue := 0 }, { name := "initialIn", type := (.object "java/io/InputStream"), accessFlags := 10, slot := 3, constantValue := 0 }, { name := "NEVER", type := .int, accessFlags := 26, slot := 4, constantValue := 0 }, { name := "MAYBE", type := .int, accessFlags := 26, slot := 5, constantValue := 0 }, { name := "allowSecurityManager", type := .int, accessFlags := 10, slot := 6, constantValue := 0 }, { name := "security", type := (.object "java/lang/SecurityManager"), accessFlags := 74, slot := 7, constantValue := 0 }, { name := "notSupportedJnuEncoding", type := (.object "java/lang/String"), accessFlags := 10, slot := 8, constantValue := 0 }, { name := "cons", type := (.object "java/io/Console"), accessFlags := 74, slot := 9, constantValue := 0 }, { name := "initialErrStream", type := (.object "java/io/PrintStream"), accessFlags := 74, slot := 10, constantValue := 0 }, { name := "props", type := (.object "java/util/Properties"), accessFlags := 10, slot := 11, constantValue := 0 }, { name := "lineSeparator", type := (.object "java/lang/String"), accessFlags := 10, slot := 12, constantValue := 0 }, { name := "bootLayer", type := (.object "java/lang/ModuleLayer"), accessFlags := 8, slot := 13, constantValue := 0 }]
  methods := #[k15m0, k15m1]
  instanceTypes := #[]
  staticTypes := #[(.object "java/io/InputStream"), (.object "java/io/PrintStream"), (.object "java/io/PrintStream"), (.object "java/io/InputStream"), .int, .int, .int, (.object "java/lang/SecurityManager"), (.object "java/lang/String"), (.object "java/io/Console"), (.object "java/io/PrintStream"), (.object "java/util/Properties"), (.object "java/lang/String"), (.object "java/lang/ModuleLayer")]
  resolved := Array.replicate 834 none
  statics := none }

def pool16 : Array CpInfo := pool [(2, .class_ 4), (1, u "java/lang/Object"), (0, u "<init>"), (0, u "()V"), (1, .class_ 10), (1, u "java/lang/Number"), (2, .class_ 14), (0, u "java/io/Serializable"), (0, u "serialVersionUID"), (0, u "J")] 20

def k16m0 : Method := { name := "<init>", desc := "()V", sig := { parameters := [], returnType := none }, accessFlags := 1, code := none }
/-- java/lang/Number -/
def k16 : Class := { plain "java/lang/Number" (some 0) with
  accessFlags := 1057
  interfaces := #[2]
  cf := some (fileOf pool16 8 #[] #[{ accessFlags := 1, nameIndex := 5, descriptorIndex := 6, attributes := #[] }] 1057 2 #[13] #[{ accessFlags := 26, nameIndex := 15, descriptorIndex := 16, attributes := #[] }])
  fields := #[{ name := "serialVersionUID", type := .long, accessFlags := 26, slot := 0, constantValue := 0 }]
  methods := #[k16m0]
  instanceTypes := #[]
  staticTypes := #[.long]
  resolved := Array.replicate 37 none
  statics := none }

def pool17 : Array CpInfo := pool [(1, .class_ 2), (0, u "java/lang/Integer"), (16, u "digits"), (0, u "[C"), (33, u "(I)I"), (19, u "stringSize"), (2, u "getChars"), (0, u "(II[B)I"), (4, .fieldref 1 84), (0, .nameAndType 85 86), (0, u "DigitOnes"), (0, u "[B"), (0, .fieldref 1 88), (0, .nameAndType 89 86), (0, u "DigitTens"), (99, .class_ 190), (0, u "java/lang/Integer$IntegerCache"), (3, u "I"), (8, .class_ 204), (0, u "java/lang/Number"), (2, u "value"), (94, u "TYPE"), (0, u "Ljava/lang/Class;"), (0, .class_ 305), (0, u "java/lang/Comparable"), (0, .class_ 307), (0, u "java/lang/constant/Constable"), (0, .class_ 309), (0, u "java/lang/constant/ConstantDesc"), (0, u "MIN_VALUE"), (1, u "MAX_VALUE"), (3, u "SIZE"), (1, u "BYTES"), (1, u "serialVersionUID"), (0, u "J")] 131

def k17c0 : Code := { maxStack := 4, maxLocals := 7, code := jdk_33_method_12_code, exceptionTable := #[], attributes := #[] }
def k17m0 : Method := { name := "getChars", desc := "(II[B)I", sig := { parameters := [.int, .int, (.array .byte)], returnType := some .int }, accessFlags := 8, code := some k17c0 }
def k17c1 : Code := { maxStack := 2, maxLocals := 4, code := jdk_33_method_13_code, exceptionTable := #[], attributes := #[] }
def k17m1 : Method := { name := "stringSize", desc := "(I)I", sig := { parameters := [.int], returnType := some .int }, accessFlags := 8, code := some k17c1 }
/-- java/lang/Integer -/
def k17 : Class := { plain "java/lang/Integer" (some 16) with
  accessFlags := 49
  interfaces := #[3, 5, 6]
  cf := some (fileOf pool17 1 #[.nestMembers #[189]] #[{ accessFlags := 8, nameIndex := 77, descriptorIndex := 78, attributes := #[] }, { accessFlags := 8, nameIndex := 74, descriptorIndex := 54, attributes := #[] }] 49 203 #[304, 306, 308] #[{ accessFlags := 25, nameIndex := 310, descriptorIndex := 194, attributes := #[] }, { accessFlags := 25, nameIndex := 312, descriptorIndex := 194, attributes := #[] }, { accessFlags := 25, nameIndex := 302, descriptorIndex := 303, attributes := #[] }, { accessFlags := 24, nameIndex := 19, descriptorIndex := 20, attributes := #[] }, { accessFlags := 24, nameIndex := 89, descriptorIndex := 86, attributes := #[] }, { accessFlags := 24, nameIndex := 85, descriptorIndex := 86, attributes := #[] }, { accessFlags := 18, nameIndex := 207, descriptorIndex := 194, attributes := #[] }, { accessFlags := 25, nameIndex := 316, descriptorIndex := 194, attributes := #[] }, { accessFlags := 25, nameIndex := 318, descriptorIndex := 194, attributes := #[] }, { accessFlags := 26, nameIndex := 320, descriptorIndex := 321, attributes := #[] }])
  fields := #[{ name := "MIN_VALUE", type := .int, accessFlags := 25, slot := 0, constantValue := 0 }, { name := "MAX_VALUE", type := .int, accessFlags := 25, slot := 1, constantValue := 0 }, { name := "TYPE", type := (.object "java/lang/Class"), accessFlags := 25, slot := 2, constantValue := 0 }, { name := "digits", type := (.array .char), accessFlags := 24, slot := 3, constantValue := 0 }, { name := "DigitTens", type := (.array .byte), accessFlags := 24, slot := 4, constantValue := 0 }, { name := "DigitOnes", type := (.array .byte), accessFlags := 24, slot := 5, constantValue := 0 }, { name := "value", type := .int, accessFlags := 18, slot := 0, constantValue := 0 }, { name := "SIZE", type := .int, accessFlags := 25, slot := 6, constantValue := 0 }, { name := "BYTES", type := .int, accessFlags := 25, slot := 7, constantValue := 0 }, { name := "serialVersionUID", type := .long, accessFlags := 26, slot := 8, constantValue := 0 }]
  methods := #[k17m0, k17m1]
  instanceTypes := #[.int]
  staticTypes := #[.int, .int, (.object "java/lang/Class"), (.array .char), (.array .byte), (.array .byte), .int, .int, .long]
  resolved := Array.replicate 453 none
  statics := some 2 }

def pool18 : Array CpInfo := pool [(2, .class_ 4), (1, u "java/lang/Object"), (0, u "<init>"), (0, u "()V"), (7, .class_ 16), (1, u "java/util/Arrays"), (57, .class_ 76), (1, u "java/util/Arrays$NaturalOrder"), (32, u "()Ljava/lang/Object;"), (3, .class_ 115), (1, u "java/util/Arrays$LegacyMergeSort"), (1, u "Z"), (10, .nameAndType 129 109), (0, u "clone"), (9, u "copyOfRange"), (10, .methodref 151 152), (0, .class_ 153), (0, .nameAndType 154 155), (0, u "java/lang/System"), (0, u "arraycopy"), (0, u "(Ljava/lang/Object;ILjava/lang/Object;II)V"), (146, u "copyOf"), (1, .methodref 305 306), (0, .class_ 307), (0, .nameAndType 308 309), (0, u "java/lang/Math"), (0, u "min"), (0, u "(II)I"), (0, .methodref 311 128), (0, .class_ 312), (0, u "[B"), (26, .methodref 14 340), (0, .nameAndType 341 342), (0, u "copyOfRangeByte"), (0, u "([BII)[B"), (0, .methodref 14 344), (0, .nameAndType 345 346), (0, u "checkLength"), (0, u "(II)V"), (28, .class_ 376), (0, u "java/util/Arrays$ArrayList"), (68, u "$assertionsDisabled"), (269, u "MIN_ARRAY_SORT_GRAN"), (0, u "I"), (2, u "INSERTIONSORT_THRESHOLD"), (149, u "([BI)[B"), (105, .class_ 976), (0, u "java/util/Arrays$ArrayItr")] 52

def k18m0 : Method := { name := "<init>", desc := "()V", sig := { parameters := [], returnType := none }, accessFlags := 2, code := none }
def k18c1 : Code := { maxStack := 6, maxLocals := 3, code := jdk_65_method_121_code, exceptionTable := #[], attributes := #[] }
def k18m1 : Method := { name := "copyOf", desc := "([BI)[B", sig := { parameters := [(.array .byte), .int], returnType := some (.array .byte) }, accessFlags := 9, code := some k18c1 }
def k18c2 : Code := { maxStack := 4, maxLocals := 2, code := jdk_65_method_131_code, exceptionTable := #[], attributes := #[] }
def k18m2 : Method := { name := "checkLength", desc := "(II)V", sig := { parameters := [.int, .int], returnType := none }, accessFlags := 10, code := some k18c2 }
def k18c3 : Code := { maxStack := 3, maxLocals := 3, code := jdk_65_method_132_code, exceptionTable := #[], attributes := #[] }
def k18m3 : Method := { name := "copyOfRange", desc := "([BII)[B", sig := { parameters := [(.array .byte), .int, .int], returnType := some (.array .byte) }, accessFlags := 9, code := some k18c3 }
def k18c4 : Code := { maxStack := 6, maxLocals := 5, code := jdk_65_method_133_code, exceptionTable := #[], attributes := #[] }
def k18m4 : Method := { name := "copyOfRangeByte", desc := "([BII)[B", sig := { parameters := [(.array .byte), .int, .int], returnType := some (.array .byte) }, accessFlags := 10, code := some k18c4 }
/-- java/util/Arrays -/
def k18 : Class := { plain "java/util/Arrays" (some 0) with
  accessFlags := 49
  interfaces := #[]
  cf := some (fileOf pool18 14 #[.nestMembers #[975, 375, 113, 74]] #[{ accessFlags := 2, nameIndex := 5, descriptorIndex := 6, attributes := #[] }, { accessFlags := 9, nameIndex := 302, descriptorIndex := 869, attributes := #[] }, { accessFlags := 10, nameIndex := 345, descriptorIndex := 346, attributes := #[] }, { accessFlags := 9, nameIndex := 139, descriptorIndex := 342, attributes := #[] }, { accessFlags := 10, nameIndex := 341, descriptorIndex := 342, attributes := #[] }] 49 2 #[] #[{ accessFlags := 26, nameIndex := 715, descriptorIndex := 716, attributes := #[] }, { accessFlags := 26, nameIndex := 719, descriptorIndex := 716, attributes := #[] }, { accessFlags := 4120, nameIndex := 445, descriptorIndex := 117, attributes := #[] }])
  fields := #[{ name := "MIN_ARRAY_SORT_GRAN", type := .int, accessFlags := 26, slot := 0, constantValue := 0 }, { name := "INSERTIONSORT_THRESHOLD", type := .int, accessFlags := 26, slot := 1, constantValue := 0 }, { name := "$assertionsDisabled", type := .boolean, accessFlags := 4120, slot := 2, constantValue := 0 }]
  methods := #[k18m0, k18m1, k18m2, k18m3, k18m4]
  instanceTypes := #[]
  staticTypes := #[.int, .int, .boolean]
  resolved := Array.replicate 1029 none
  statics := none }

def pool19 : Array CpInfo := pool [(1, .class_ 2), (0, u "java/lang/Math"), (1, .class_ 6), (1, u "java/lang/Object"), (0, u "<init>"), (0, u "()V"), (89, .class_ 100), (1, u "java/lang/Math$RandomNumberGeneratorHolder"), (71, u "negativeZeroFloatBits"), (0, u "J"), (2, u "negativeZeroDoubleBits"), (21, u "max"), (2, u "min"), (43, u "$assertionsDisabled"), (0, u "Z"), (88, u "(II)I"), (2, u "twoToTheDoubleScaleDown"), (0, u "D"), (4, u "twoToTheDoubleScaleUp"), (9, u "E"), (3, u "PI"), (2, u "TAU"), (2, u "DEGREES_TO_RADIANS"), (0, u "RADIANS_TO_DEGREES")] 94

def k19m0 : Method := { name := "<init>", desc := "()V", sig := { parameters := [], returnType := none }, accessFlags := 2, code := none }
def k19c1 : Code := { maxStack := 2, maxLocals := 2, code := jdk_29_method_65_code, exceptionTable := #[], attributes := #[] }
def k19m1 : Method := { name := "max", desc := "(II)I", sig := { parameters := [.int, .int], returnType := some .int }, accessFlags := 9, code := some k19c1 }
def k19c2 : Code := { maxStack := 2, maxLocals := 2, code := jdk_29_method_69_code, exceptionTable := #[], attributes := #[] }
def k19m2 : Method := { name := "min", desc := "(II)I", sig := { parameters := [.int, .int], returnType := some .int }, accessFlags := 9, code := some k19c2 }
/-- java/lang/Math -/
def k19 : Class := { plain "java/lang/Math" (some 0) with
  accessFlags := 49
  interfaces := #[]
  cf := some (fileOf pool19 1 #[.nestMembers #[98]] #[{ accessFlags := 2, nameIndex := 7, descriptorIndex := 8, attributes := #[] }, { accessFlags := 9, nameIndex := 198, descriptorIndex := 335, attributes := #[] }, { accessFlags := 9, nameIndex := 201, descriptorIndex := 335, attributes := #[] }] 49 4 #[] #[{ accessFlags := 25, nameIndex := 354, descriptorIndex := 339, attributes := #[] }, { accessFlags := 25, nameIndex := 358, descriptorIndex := 339, attributes := #[] }, { accessFlags := 25, nameIndex := 361, descriptorIndex := 339, attributes := #[] }, { accessFlags := 26, nameIndex := 364, descriptorIndex := 339, attributes := #[] }, { accessFlags := 26, nameIndex := 365, descriptorIndex := 339, attributes := #[] }, { accessFlags := 26, nameIndex := 172, descriptorIndex := 173, attributes := #[] }, { accessFlags := 26, nameIndex := 176, descriptorIndex := 173, attributes := #[] }, { accessFlags := 8, nameIndex := 344, descriptorIndex := 339, attributes := #[] }, { accessFlags := 8, nameIndex := 338, descriptorIndex := 339, attributes := #[] }, { accessFlags := 4120, nameIndex := 245, descriptorIndex := 246, attributes := #[] }])
  fields := #[{ name := "E", type := .double, accessFlags := 25, slot := 0, constantValue := 0 }, { name := "PI", type := .double, accessFlags := 25, slot := 1, constantValue := 0 }, { name := "TAU", type := .double, accessFlags := 25, slot := 2, constantValue := 0 }, { name := "DEGREES_TO_RADIANS", type := .double, accessFlags := 26, slot := 3, constantValue := 0 }, { name := "RADIANS_TO_DEGREES", type := .double, accessFlags := 26, slot := 4, constantValue := 0 }, { name := "negativeZeroFloatBits", type := .long, accessFlags := 26, slot := 5, constantValue := 0 }, { name := "negativeZeroDoubleBits", type := .long, accessFlags := 26, slot := 6, constantValue := 0 }, { name := "twoToTheDoubleScaleUp", type := .double, accessFlags := 8, slot := 7, constantValue := 0 }, { name := "twoToTheDoubleScaleDown", type := .double, accessFlags := 8, slot := 8, constantValue := 0 }, { name := "$assertionsDisabled", type := .boolean, accessFlags := 4120, slot := 9, constantValue := 0 }]
  methods := #[k19m0, k19m1, k19m2]
  instanceTypes := #[]
  staticTypes := #[.double, .double, .double, .double, .double, .long, .long, .double, .double, .boolean]
  resolved := Array.replicate 460 none
  statics := none }

def pool20 : Array CpInfo := pool [(2, .class_ 4), (1, u "java/lang/Object"), (0, u "<init>"), (0, u "()V"), (0, .fieldref 8 9), (0, .class_ 10), (0, .nameAndType 11 12), (0, u "java/util/OptionalInt"), (0, u "isPresent"), (0, u "Z"), (2, u "value"), (0, u "I"), (0, .fieldref 8 18), (0, .nameAndType 19 20), (0, u "EMPTY"), (0, u "Ljava/util/OptionalInt;"), (28, u "empty"), (46, u "()Ljava/util/OptionalInt;"), (2, u "()Z")] 36

def k20m0 : Method := { name := "<init>", desc := "()V", sig := { parameters := [], returnType := none }, accessFlags := 2, code := none }
def k20c1 : Code := { maxStack := 1, maxLocals := 0, code := jdk_2649_method_2_code, exceptionTable := #[], attributes := #[] }
def k20m1 : Method := { name := "empty", desc := "()Ljava/util/OptionalInt;", sig := { parameters := [], returnType := some (.object "java/util/OptionalInt") }, accessFlags := 9, code := some k20c1 }
def k20c2 : Code := { maxStack := 1, maxLocals := 1, code := jdk_2649_method_6_code, exceptionTable := #[], attributes := #[] }
def k20m2 : Method := { name := "isPresent", desc := "()Z", sig := { parameters := [], returnType := some .boolean }, accessFlags := 1, code := some k20c2 }
/-- java/util/OptionalInt -/
def k20 : Class := { plain "java/util/OptionalInt" (some 0) with
  accessFlags := 49
  interfaces := #[]
  cf := some (fileOf pool20 8 #[] #[{ accessFlags := 2, nameIndex := 5, descriptorIndex := 6, attributes := #[] }, { accessFlags := 9, nameIndex := 49, descriptorIndex := 96, attributes := #[] }, { accessFlags := 1, nameIndex := 11, descriptorIndex := 99, attributes := #[] }] 49 2 #[] #[{ accessFlags := 26, nameIndex := 19, descriptorIndex := 20, attributes := #[] }, { accessFlags := 18, nameIndex := 11, descriptorIndex := 12, attributes := #[] }, { accessFlags := 18, nameIndex := 15, descriptorIndex := 16, attributes := #[] }])
  fields := #[{ name := "EMPTY", type := (.object "java/util/OptionalInt"), accessFlags := 26, slot := 0, constantValue := 0 }, { name := "isPresent", type := .boolean, accessFlags := 18, slot := 0, constantValue := 0 }, { name := "value", type := .int, accessFlags := 18, slot := 1, constantValue := 0 }]
  methods := #[k20m0, k20m1, k20m2]
  instanceTypes := #[.boolean, .int]
  staticTypes := #[(.object "java/util/OptionalInt")]
  resolved := Array.replicate 136 none
  statics := some 3 }

def pool21 : Array CpInfo := pool [(1, .fieldref 2 3), (0, .class_ 4), (0, .nameAndType 5 6), (0, u "java/util/Optional"), (0, u "EMPTY"), (0, u "Ljava/util/Optional;"), (1, .class_ 10), (1, u "java/lang/Object"), (2, .fieldref 2 14), (0, .nameAndType 15 16), (0, u "value"), (0, u "Ljava/lang/Object;"), (29, u "()Z"), (17, u "ofNullable"), (0, u "(Ljava/lang/Object;)Ljava/util/Optional;"), (2, u "isPresent")] 118

def k21c0 : Code := { maxStack := 3, maxLocals := 1, code := jdk_32_method_4_code, exceptionTable := #[], attributes := #[] }
def k21m0 : Method := { name := "ofNullable", desc := "(Ljava/lang/Object;)Ljava/util/Optional;", sig := { parameters := [(.object "java/lang/Object")], returnType := some (.object "java/util/Optional") }, accessFlags := 9, code := some k21c0 }
def k21c1 : Code := { maxStack := 1, maxLocals := 1, code := jdk_32_method_6_code, exceptionTable := #[], attributes := #[] }
def k21m1 : Method := { name := "isPresent", desc := "()Z", sig := { parameters := [], returnType := some .boolean }, accessFlags := 1, code := some k21c1 }
/-- java/util/Optional -/
def k21 : Class := { plain "java/util/Optional" (some 0) with
  accessFlags := 49
  interfaces := #[]
  cf := some (fileOf pool21 2 #[] #[{ accessFlags := 9, nameIndex := 64, descriptorIndex := 65, attributes := #[] }, { accessFlags := 1, nameIndex := 68, descriptorIndex := 46, attributes := #[] }] 49 8 #[] #[{ accessFlags := 26, nameIndex := 5, descriptorIndex := 6, attributes := #[] }, { accessFlags := 18, nameIndex := 15, descriptorIndex := 16, attributes := #[] }])
  fields := #[{ name := "EMPTY", type := (.object "java/util/Optional"), accessFlags := 26, slot := 0, constantValue := 0 }, { name := "value", type := (.object "java/lang/Object"), accessFlags := 18, slot := 0, constantValue := 0 }]
  methods := #[k21m0, k21m1]
  instanceTypes := #[(.object "java/lang/Object")]
  staticTypes := #[(.object "java/util/Optional")]
  resolved := Array.replicate 187 none
  statics := some 4 }

def pool22 : Array CpInfo := pool [(1, .class_ 2), (0, u "java/lang/Cloneable"), (0, .class_ 4), (0, u "java/lang/Object")] 2

/-- java/lang/Cloneable -/
def k22 : Class := { plain "java/lang/Cloneable" (some 0) with
  accessFlags := 1537
  interfaces := #[]
  cf := some (fileOf pool22 1 #[] #[] 1537 3 #[] #[])
  fields := #[]
  methods := #[]
  instanceTypes := #[]
  staticTypes := #[]
  resolved := Array.replicate 7 none
  statics := none }

def pool23 : Array CpInfo := pool [(9, u "<init>"), (6, .class_ 18), (1, u "java/lang/Object"), (0, u "()V"), (1, .class_ 23), (1, u "jdk/internal/util/ArraysSupport"), (0, u "LOG2_ARRAY_LONG_INDEX_SCALE"), (0, u "I"), (2, u "U"), (0, u "Ljdk/internal/misc/Unsafe;"), (8, u "BIG_ENDIAN"), (0, u "Z"), (8, u "LOG2_BYTE_BIT_SIZE"), (4, u "LOG2_ARRAY_INT_INDEX_SCALE"), (54, u "JLA"), (0, u "Ljdk/internal/access/JavaLangAccess;"), (11, u "LOG2_ARRAY_BOOLEAN_INDEX_SCALE"), (9, u "LOG2_ARRAY_BYTE_INDEX_SCALE"), (5, u "LOG2_ARRAY_CHAR_INDEX_SCALE"), (5, u "LOG2_ARRAY_SHORT_INDEX_SCALE"), (18, u "LOG2_ARRAY_FLOAT_INDEX_SCALE"), (24, u "LOG2_ARRAY_DOUBLE_INDEX_SCALE"), (6, .methodref 195 196), (0, .class_ 197), (0, .nameAndType 198 199), (0, u "java/lang/Math"), (0, u "max"), (0, u "(II)I"), (0, .integer 2147483639), (76, u "T_BOOLEAN"), (2, u "T_CHAR"), (1, u "T_FLOAT"), (1, u "T_DOUBLE"), (1, u "T_BYTE"), (1, u "T_SHORT"), (1, u "T_INT"), (1, u "T_LONG"), (1, u "SOFT_MAX_ARRAY_LENGTH"), (56, u "newLength"), (0, u "(III)I")] 25

def k23m0 : Method := { name := "<init>", desc := "()V", sig := { parameters := [], returnType := none }, accessFlags := 2, code := none }
def k23c1 : Code := { maxStack := 3, maxLocals := 4, code := jdk_48_method_27_code, exceptionTable := #[], attributes := #[] }
def k23m1 : Method := { name := "newLength", desc := "(III)I", sig := { parameters := [.int, .int, .int], returnType := some .int }, accessFlags := 9, code := some k23c1 }
/-- jdk/internal/util/ArraysSupport -/
def k23 : Class := { plain "jdk/internal/util/ArraysSupport" (some 0) with
  accessFlags := 33
  interfaces := #[]
  cf := some (fileOf pool23 21 #[] #[{ accessFlags := 2, nameIndex := 9, descriptorIndex := 19, attributes := #[] }, { accessFlags := 9, nameIndex := 351, descriptorIndex := 352, attributes := #[] }] 33 16 #[] #[{ accessFlags := 24, nameIndex := 28, descriptorIndex := 29, attributes := #[] }, { accessFlags := 26, nameIndex := 38, descriptorIndex := 39, attributes := #[] }, { accessFlags := 25, nameIndex := 121, descriptorIndex := 25, attributes := #[] }, { accessFlags := 25, nameIndex := 131, descriptorIndex := 25, attributes := #[] }, { accessFlags := 25, nameIndex := 137, descriptorIndex := 25, attributes := #[] }, { accessFlags := 25, nameIndex := 143, descriptorIndex := 25, attributes := #[] }, { accessFlags := 25, nameIndex := 53, descriptorIndex := 25, attributes := #[] }, { accessFlags := 25, nameIndex := 24, descriptorIndex := 25, attributes := #[] }, { accessFlags := 25, nameIndex := 162, descriptorIndex := 25, attributes := #[] }, { accessFlags := 25, nameIndex := 187, descriptorIndex := 25, attributes := #[] }, { accessFlags := 26, nameIndex := 48, descriptorIndex := 25, attributes := #[] }, { accessFlags := 25, nameIndex := 277, descriptorIndex := 25, attributes := #[] }, { accessFlags := 25, nameIndex := 280, descriptorIndex := 25, attributes := #[] }, { accessFlags := 25, nameIndex := 282, descriptorIndex := 25, attributes := #[] }, { accessFlags := 25, nameIndex := 284, descriptorIndex := 25, attributes := #[] }, { accessFlags := 25, nameIndex := 286, descriptorIndex := 25, attributes := #[] }, { accessFlags := 25, nameIndex := 288, descriptorIndex := 25, attributes := #[] }, { accessFlags := 25, nameIndex := 290, descriptorIndex := 25, attributes := #[] }, { accessFlags := 25, nameIndex := 292, descriptorIndex := 25, attributes := #[] }, { accessFlags := 26, nameIndex := 108, descriptorIndex := 109, attributes := #[] }, { accessFlags := 25, nameIndex := 294, descriptorIndex := 25, attributes := #[] }])
  fields := #[{ name := "U", type := (.object "jdk/internal/misc/Unsafe"), accessFlags := 24, slot := 0, constantValue := 0 }, { name := "BIG_ENDIAN", type := .boolean, accessFlags := 26, slot := 1, constantValue := 0 }, { name := "LOG2_ARRAY_BOOLEAN_INDEX_SCALE", type := .int, accessFlags := 25, slot := 2, constantValue := 0 }, { name := "LOG2_ARRAY_BYTE_INDEX_SCALE", type := .int, accessFlags := 25, slot := 3, constantValue := 0 }, { name := "LOG2_ARRAY_CHAR_INDEX_SCALE", type := .int, accessFlags := 25, slot := 4, constantValue := 0 }, { name := "LOG2_ARRAY_SHORT_INDEX_SCALE", type := .int, accessFlags := 25, slot := 5, constantValue := 0 }, { name := "LOG2_ARRAY_INT_INDEX_SCALE", type := .int, accessFlags := 25, slot := 6, constantValue := 0 }, { name := "LOG2_ARRAY_LONG_INDEX_SCALE", type := .int, accessFlags := 25, slot := 7, constantValue := 0 }, { name := "LOG2_ARRAY_FLOAT_INDEX_SCALE", type := .int, accessFlags := 25, slot := 8, constantValue := 0 }, { name := "LOG2_ARRAY_DOUBLE_INDEX_SCALE", type := .int, accessFlags := 25, slot := 9, constantValue := 0 }, { name := "LOG2_BYTE_BIT_SIZE", type := .int, accessFlags := 26, slot := 10, constantValue := 0 }, { name := "T_BOOLEAN", type := .int, accessFlags := 25, slot := 11, constantValue := 0 }, { name := "T_CHAR", type := .int, accessFlags := 25, slot := 12, constantValue := 0 }, { name := "T_FLOAT", type := .int, accessFlags := 25, slot := 13, constantValue := 0 }, { name := "T_DOUBLE", type := .int, accessFlags := 25, slot := 14, constantValue := 0 }, { name := "T_BYTE", type := .int, accessFlags := 25, slot := 15, constantValue := 0 }, { name := "T_SHORT", type := .int, accessFlags := 25, slot := 16, constantValue := 0 }, { name := "T_INT", type := .int, accessFlags := 25, slot := 17, constantValue := 0 }, { name := "T_LONG", type := .int, accessFlags := 25, slot := 18, constantValue := 0 }, { name := "JLA", type := (.object "jdk/internal/access/JavaLangAccess"), accessFlags := 26, slot := 19, constantValue := 0 }, { name := "SOFT_MAX_ARRAY_LENGTH", type := .int, accessFlags := 25, slot := 20, constantValue := 0 }]
  methods := #[k23m0, k23m1]
  instanceTypes := #[]
  staticTypes := #[(.object "jdk/internal/misc/Unsafe"), .boolean, .int, .int, .int, .int, .int, .int, .int, .int, .int, .int, .int, .int, .int, .int, .int, .int, .int, (.object "jdk/internal/access/JavaLangAccess"), .int]
  resolved := Array.replicate 378 none
  statics := none }

def pool24 : Array CpInfo := pool [(4, .class_ 6), (1, u "java/lang/Object"), (0, u "<init>"), (0, u "()V"), (5, .class_ 16), (1, u "java/lang/StringLatin1"), (104, u "$assertionsDisabled"), (0, u "Z"), (98, .class_ 223), (1, u "java/lang/StringLatin1$LinesSpliterator"), (166, .class_ 391), (0, u "java/lang/StringLatin1$CharsSpliterator")] 3

def k24m0 : Method := { name := "<init>", desc := "()V", sig := { parameters := [], returnType := none }, accessFlags := 0, code := none }
/-- java/lang/StringLatin1 -/
def k24 : Class := { plain "java/lang/StringLatin1" (some 0) with
  accessFlags := 48
  interfaces := #[]
  cf := some (fileOf pool24 14 #[.nestMembers #[390, 221]] #[{ accessFlags := 0, nameIndex := 7, descriptorIndex := 8, attributes := #[] }] 48 4 #[] #[{ accessFlags := 4120, nameIndex := 121, descriptorIndex := 122, attributes := #[] }])
  fields := #[{ name := "$assertionsDisabled", type := .boolean, accessFlags := 4120, slot := 0, constantValue := 0 }]
  methods := #[k24m0]
  instanceTypes := #[]
  staticTypes := #[.boolean]
  resolved := Array.replicate 395 none
  statics := none }

def pool25 : Array CpInfo := pool [(2, .class_ 4), (1, u "java/lang/Object"), (0, u "<init>"), (0, u "()V"), (17, .class_ 26), (1, u "jdk/internal/util/Preconditions"), (28, .class_ 56), (0, u "jdk/internal/util/Preconditions$4"), (57, .class_ 115), (0, u "jdk/internal/util/Preconditions$1"), (7, u "SIOOBE_FORMATTER"), (0, u "Ljava/util/function/BiFunction;"), (0, .class_ 126), (0, u "jdk/internal/util/Preconditions$2"), (3, u "AIOOBE_FORMATTER"), (0, .class_ 132), (0, u "jdk/internal/util/Preconditions$3"), (3, u "IOOBE_FORMATTER")] 57

def k25m0 : Method := { name := "<init>", desc := "()V", sig := { parameters := [], returnType := none }, accessFlags := 1, code := none }
/-- jdk/internal/util/Preconditions -/
def k25 : Class := { plain "jdk/internal/util/Preconditions" (some 0) with
  accessFlags := 33
  interfaces := #[]
  cf := some (fileOf pool25 24 #[.nestMembers #[55, 131, 125, 114]] #[{ accessFlags := 1, nameIndex := 5, descriptorIndex := 6, attributes := #[] }] 33 2 #[] #[{ accessFlags := 25, nameIndex := 123, descriptorIndex := 124, attributes := #[] }, { accessFlags := 25, nameIndex := 130, descriptorIndex := 124, attributes := #[] }, { accessFlags := 25, nameIndex := 136, descriptorIndex := 124, attributes := #[] }])
  fields := #[{ name := "SIOOBE_FORMATTER", type := (.object "java/util/function/BiFunction"), accessFlags := 25, slot := 0, constantValue := 0 }, { name := "AIOOBE_FORMATTER", type := (.object "java/util/function/BiFunction"), accessFlags := 25, slot := 1, constantValue := 0 }, { name := "IOOBE_FORMATTER", type := (.object "java/util/function/BiFunction"), accessFlags := 25, slot := 2, constantValue := 0 }]
  methods := #[k25m0]
  instanceTypes := #[]
  staticTypes := #[(.object "java/util/function/BiFunction"), (.object "java/util/function/BiFunction"), (.object "java/util/function/BiFunction")]
  resolved := Array.replicate 194 none
  statics := some 5 }

def pool26 : Array CpInfo := pool [(2, .class_ 4), (1, u "java/lang/Object"), (0, u "<init>"), (0, u "()V"), (12, .class_ 20), (0, u "java/util/Collections"), (63, u "r"), (0, u "Ljava/util/Random;"), (80, .class_ 167), (0, u "java/util/Collections$UnmodifiableCollection"), (6, .class_ 175), (0, u "java/util/Collections$UnmodifiableSequencedCollection"), (6, .class_ 183), (0, u "java/util/Collections$UnmodifiableSet"), (6, .class_ 191), (0, u "java/util/Collections$UnmodifiableSequencedSet"), (6, .class_ 199), (0, u "java/util/Collections$UnmodifiableSortedSet"), (6, .class_ 207), (0, u "java/util/Collections$UnmodifiableNavigableSet"), (4, .class_ 213), (0, u "java/util/Collections$UnmodifiableList"), (1, .class_ 216), (0, u "java/util/Collections$UnmodifiableRandomAccessList"), (6, .class_ 224), (0, u "java/util/Collections$UnmodifiableMap"), (6, .class_ 232), (0, u "java/util/Collections$UnmodifiableSequencedMap"), (4, .class_ 238), (0, u "java/util/Collections$UnmodifiableSortedMap"), (6, .class_ 246), (0, u "java/util/Collections$UnmodifiableNavigableMap"), (3, .class_ 251), (0, u "java/util/Collections$SynchronizedCollection"), (4, .class_ 257), (0, u "java/util/Collections$SynchronizedSet"), (4, .class_ 263), (0, u "java/util/Collections$SynchronizedSortedSet"), (1, .class_ 266), (0, u "java/util/Collections$SynchronizedNavigableSet"), (1, .class_ 269), (0, u "java/util/Collections$SynchronizedRandomAccessList"), (1, .class_ 272), (0, u "java/util/Collections$SynchronizedList"), (5, .class_ 279), (0, u "java/util/Collections$SynchronizedMap"), (1, .class_ 282), (0, u "java/util/Collections$SynchronizedSortedMap"), (1, .class_ 285), (0, u "java/util/Collections$SynchronizedNavigableMap"), (1, .class_ 288), (0, u "java/util/Collections$CheckedCollection"), (11, .class_ 301), (0, u "java/util/Collections$CheckedQueue"), (3, .class_ 306), (0, u "java/util/Collections$CheckedSet"), (3, .class_ 311), (0, u "java/util/Collections$CheckedSortedSet"), (3, .class_ 316), (0, u "java/util/Collections$CheckedNavigableSet"), (3, .class_ 321), (0, u "java/util/Collections$CheckedRandomAccessList"), (3, .class_ 326), (0, u "java/util/Collections$CheckedList"), (1, .class_ 329), (0, u "java/util/Collections$CheckedMap"), (3, .class_ 334), (0, u "java/util/Collections$CheckedSortedMap"), (3, .class_ 339), (0, u "java/util/Collections$CheckedNavigableMap"), (4, .class_ 346), (1, u "java/util/Collections$EmptyIterator"), (3, .class_ 352), (1, u "java/util/Collections$EmptyListIterator"), (2, .class_ 357), (1, u "java/util/Collections$EmptyEnumeration"), (4, u "EMPTY_SET"), (0, u "Ljava/util/Set;"), (6, u "EMPTY_LIST"), (0, u "Ljava/util/List;"), (2, u "EMPTY_MAP"), (0, u "Ljava/util/Map;"), (4, .class_ 381), (0, u "java/util/Collections$SingletonSet"), (2, .class_ 385), (0, u "java/util/Collections$1"), (1, .class_ 388), (0, u "java/util/Collections$2"), (1, .class_ 391), (0, u "java/util/Collections$SingletonList"), (1, .class_ 394), (0, u "java/util/Collections$SingletonMap"), (22, .class_ 418), (0, u "java/util/Collections$CopiesList"), (4, .class_ 425), (1, u "java/util/Collections$ReverseComparator"), (8, .class_ 435), (0, u "java/util/Collections$ReverseComparator2"), (6, .class_ 443), (0, u "java/util/Collections$3"), (25, .class_ 470), (0, u "java/util/Collections$SetFromMap"), (2, .class_ 474), (0, u "java/util/Collections$SequencedSetFromMap"), (3, .class_ 479), (0, u "java/util/Collections$AsLIFOQueue"), (11, .class_ 492), (0, u "java/util/Collections$EmptySet"), (1, .class_ 495), (0, u "java/util/Collections$EmptyList"), (1, .class_ 498), (0, u "java/util/Collections$EmptyMap"), (1, u "BINARYSEARCH_THRESHOLD"), (0, u "I"), (2, u "REVERSE_THRESHOLD"), (1, u "SHUFFLE_THRESHOLD"), (1, u "FILL_THRESHOLD"), (1, u "ROTATE_THRESHOLD"), (1, u "COPY_THRESHOLD"), (1, u "REPLACEALL_THRESHOLD"), (1, u "INDEXOFSUBLIST_THRESHOLD"), (333, .class_ 851), (0, u "java/util/Collections$CheckedMap$CheckedEntrySet"), (0, .class_ 853), (0, u "java/util/Collections$CheckedMap$CheckedEntrySet$CheckedEntry"), (0, .class_ 855), (0, u "java/util/Collections$CheckedMap$CheckedEntrySet$1"), (0, .class_ 857), (0, u "java/util/Collections$CheckedList$1"), (0, .class_ 859), (0, u "java/util/Collections$CheckedCollection$1"), (0, .class_ 861), (0, u "java/util/Collections$UnmodifiableNavigableMap$EmptyNavigableMap"), (0, .class_ 863), (0, u "java/util/Collections$UnmodifiableMap$UnmodifiableEntrySet"), (0, .class_ 865), (0, u "java/util/Collections$UnmodifiableMap$UnmodifiableEntrySet$UnmodifiableEntry"), (0, .class_ 867), (0, u "java/util/Collections$UnmodifiableMap$UnmodifiableEntrySet$UnmodifiableEntrySetSpliterator"), (0, .class_ 869), (0, u "java/util/Collections$UnmodifiableMap$UnmodifiableEntrySet$1"), (0, .class_ 871), (0, u "java/util/Collections$UnmodifiableList$1"), (0, .class_ 873), (0, u "java/util/Collections$UnmodifiableNavigableSet$EmptyNavigableSet"), (0, .class_ 875), (0, u "java/util/Collections$UnmodifiableCollection$1")] 57

def k26m0 : Method := { name := "<init>", desc := "()V", sig := { parameters := [], returnType := none }, accessFlags := 2, code := none }
/-- java/util/Collections -/
def k26 : Class := { plain "java/util/Collections" (some 0) with
  accessFlags := 33
  interfaces := #[]
  cf := some (fileOf pool26 19 #[.nestMembers #[478, 473, 469, 434, 423, 417, 393, 390, 380, 497, 494, 491, 355, 350, 344, 338, 333, 328, 850, 852, 854, 320, 325, 856, 315, 310, 305, 300, 287, 858, 284, 281, 278, 268, 271, 265, 262, 256, 250, 245, 860, 237, 231, 223, 862, 864, 866, 868, 215, 212, 870, 206, 872, 198, 190, 182, 174, 166, 874, 442, 387, 384]] #[{ accessFlags := 2, nameIndex := 5, descriptorIndex := 6, attributes := #[] }] 33 2 #[] #[{ accessFlags := 26, nameIndex := 500, descriptorIndex := 501, attributes := #[] }, { accessFlags := 26, nameIndex := 504, descriptorIndex := 501, attributes := #[] }, { accessFlags := 26, nameIndex := 506, descriptorIndex := 501, attributes := #[] }, { accessFlags := 26, nameIndex := 508, descriptorIndex := 501, attributes := #[] }, { accessFlags := 26, nameIndex := 510, descriptorIndex := 501, attributes := #[] }, { accessFlags := 26, nameIndex := 512, descriptorIndex := 501, attributes := #[] }, { accessFlags := 26, nameIndex := 514, descriptorIndex := 501, attributes := #[] }, { accessFlags := 26, nameIndex := 516, descriptorIndex := 501, attributes := #[] }, { accessFlags := 10, nameIndex := 84, descriptorIndex := 85, attributes := #[] }, { accessFlags := 25, nameIndex := 362, descriptorIndex := 363, attributes := #[] }, { accessFlags := 25, nameIndex := 370, descriptorIndex := 371, attributes := #[] }, { accessFlags := 25, nameIndex := 374, descriptorIndex := 375, attributes := #[] }])
  fields := #[{ name := "BINARYSEARCH_THRESHOLD", type := .int, accessFlags := 26, slot := 0, constantValue := 0 }, { name := "REVERSE_THRESHOLD", type := .int, accessFlags := 26, slot := 1, constantValue := 0 }, { name := "SHUFFLE_THRESHOLD", type := .int, accessFlags := 26, slot := 2, constantValue := 0 }, { name := "FILL_THRESHOLD", type := .int, accessFlags := 26, slot := 3, constantValue := 0 }, { name := "ROTATE_THRESHOLD", type := .int, accessFlags := 26, slot := 4, constantValue := 0 }, { name := "COPY_THRESHOLD", type := .int, accessFlags := 26, slot := 5, constantValue := 0 }, { name := "REPLACEALL_THRESHOLD", type := .int, accessFlags := 26, slot := 6, constantValue := 0 }, { name := "INDEXOFSUBLIST_THRESHOLD", type := .int, accessFlags := 26, slot := 7, constantValue := 0 }, { name := "r", type := (.object "java/util/Random"), accessFlags := 10, slot := 8, constantValue := 0 }, { name := "EMPTY_SET", type := (.object "java/util/Set"), accessFlags := 25, slot := 9, constantValue := 0 }, { name := "EMPTY_LIST", type := (.object "java/util/List"), accessFlags := 25, slot := 10, constantValue := 0 }, { name := "EMPTY_MAP", type := (.object "java/util/Map"), accessFlags := 25, slot := 11, constantValue := 0 }]
  methods := #[k26m0]
  instanceTypes := #[]
  staticTypes := #[.int, .int, .int, .int, .int, .int, .int, .int, (.object "java/util/Random"), (.object "java/util/Set"), (.object "java/util/List"), (.object "java/util/Map")]
  resolved := Array.replicate 933 none
  statics := some 6 }

def pool27 : Array CpInfo := pool [(8, .class_ 10), (1, u "java/lang/Iterable"), (24, .class_ 36), (0, u "java/lang/Object")] 25

/-- java/lang/Iterable -/
def k27 : Class := { plain "java/lang/Iterable" (some 0) with
  accessFlags := 1537
  interfaces := #[]
  cf := some (fileOf pool27 8 #[] #[] 1537 35 #[] #[])
  fields := #[]
  methods := #[]
  instanceTypes := #[]
  staticTypes := #[]
  resolved := Array.replicate 62 none
  statics := none }

def pool28 : Array CpInfo := pool [(10, .class_ 12), (1, u "java/util/Collection"), (47, .class_ 61), (0, u "java/lang/Object"), (0, .class_ 63), (0, u "java/lang/Iterable")] 51

/-- java/util/Collection -/
def k28 : Class := { plain "java/util/Collection" (some 0) with
  accessFlags := 1537
  interfaces := #[27]
  cf := some (fileOf pool28 10 #[] #[] 1537 60 #[62] #[])
  fields := #[]
  methods := #[]
  instanceTypes := #[]
  staticTypes := #[]
  resolved := Array.replicate 115 none
  statics := none }

def pool29 : Array CpInfo := pool [(2, .class_ 4), (1, u "java/lang/Object"), (0, u "<init>"), (0, u "()V"), (1, .class_ 10), (1, u "java/util/AbstractCollection"), (66, .class_ 78), (0, u "java/util/Collection")] 81

def k29m0 : Method := { name := "<init>", desc := "()V", sig := { parameters := [], returnType := none }, accessFlags := 4, code := none }
/-- java/util/AbstractCollection -/
def k29 : Class := { plain "java/util/AbstractCollection" (some 0) with
  accessFlags := 1057
  interfaces := #[28]
  cf := some (fileOf pool29 8 #[] #[{ accessFlags := 4, nameIndex := 5, descriptorIndex := 6, attributes := #[] }] 1057 2 #[77] #[])
  fields := #[]
  methods := #[k29m0]
  instanceTypes := #[]
  staticTypes := #[]
  resolved := Array.replicate 160 none
  statics := none }

def pool30 : Array CpInfo := pool [(8, .class_ 10), (1, u "java/util/SequencedCollection"), (15, .class_ 27), (0, u "java/lang/Object"), (0, .class_ 29), (0, u "java/util/Collection")] 27

/-- java/util/SequencedCollection -/
def k30 : Class := { plain "java/util/SequencedCollection" (some 0) with
  accessFlags := 1537
  interfaces := #[28]
  cf := some (fileOf pool30 8 #[] #[] 1537 26 #[28] #[])
  fields := #[]
  methods := #[]
  instanceTypes := #[]
  staticTypes := #[]
  resolved := Array.replicate 57 none
  statics := none }

def pool31 : Array CpInfo := pool [(8, .class_ 10), (1, u "java/util/List"), (92, .class_ 104), (0, u "java/lang/Object"), (15, .class_ 121), (0, u "java/util/SequencedCollection")] 129

/-- java/util/List -/
def k31 : Class := { plain "java/util/List" (some 0) with
  accessFlags := 1537
  interfaces := #[30]
  cf := some (fileOf pool31 8 #[] #[] 1537 103 #[120] #[])
  fields := #[]
  methods := #[]
  instanceTypes := #[]
  staticTypes := #[]
  resolved := Array.replicate 251 none
  statics := none }

def pool32 : Array CpInfo := pool [(2, .class_ 4), (1, u "java/util/AbstractCollection"), (0, u "<init>"), (0, u "()V"), (1, .class_ 10), (1, u "java/util/AbstractList"), (0, u "modCount"), (0, u "I"), (64, .class_ 78), (0, u "java/util/AbstractList$Itr"), (3, .class_ 83), (0, u "java/util/AbstractList$ListItr"), (9, .class_ 94), (0, u "java/util/AbstractList$RandomAccessSubList"), (3, .class_ 99), (0, u "java/util/AbstractList$SubList"), (33, .class_ 134), (0, u "java/util/List"), (73, .class_ 209), (0, u "java/util/AbstractList$SubList$1"), (0, .class_ 211), (0, u "java/util/AbstractList$RandomAccessSpliterator")] 6

def k32m0 : Method := { name := "<init>", desc := "()V", sig := { parameters := [], returnType := none }, accessFlags := 4, code := none }
/-- java/util/AbstractList -/
def k32 : Class := { plain "java/util/AbstractList" (some 29) with
  accessFlags := 1057
  interfaces := #[31]
  cf := some (fileOf pool32 8 #[.nestMembers #[93, 98, 208, 210, 82, 77]] #[{ accessFlags := 4, nameIndex := 5, descriptorIndex := 6, attributes := #[] }] 1057 2 #[133] #[{ accessFlags := 132, nameIndex := 11, descriptorIndex := 12, attributes := #[] }])
  fields := #[{ name := "modCount", type := .int, accessFlags := 132, slot := 0, constantValue := 0 }]
  methods := #[k32m0]
  instanceTypes := #[.int]
  staticTypes := #[]
  resolved := Array.replicate 218 none
  statics := none }

def pool33 : Array CpInfo := pool [(1, .class_ 2), (0, u "java/util/RandomAccess"), (0, .class_ 4), (0, u "java/lang/Object")] 2

/-- java/util/RandomAccess -/
def k33 : Class := { plain "java/util/RandomAccess" (some 0) with
  accessFlags := 1537
  interfaces := #[]
  cf := some (fileOf pool33 1 #[] #[] 1537 3 #[] #[])
  fields := #[]
  methods := #[]
  instanceTypes := #[]
  staticTypes := #[]
  resolved := Array.replicate 7 none
  statics := none }

def pool34 : Array CpInfo := pool [(2, .class_ 4), (1, u "java/util/AbstractList"), (0, u "<init>"), (0, u "()V"), (1, .class_ 10), (1, u "java/util/Collections"), (54, .class_ 66), (0, u "java/util/Collections$EmptyList"), (0, .class_ 68), (0, u "java/util/RandomAccess"), (0, .class_ 70), (0, u "java/io/Serializable"), (0, u "serialVersionUID"), (0, u "J")] 77

def k34m0 : Method := { name := "<init>", desc := "()V", sig := { parameters := [], returnType := none }, accessFlags := 2, code := none }
/-- java/util/Collections$EmptyList -/
def k34 : Class := { plain "java/util/Collections$EmptyList" (some 32) with
  accessFlags := 32
  interfaces := #[33, 2]
  cf := some (fileOf pool34 65 #[.nestHost 8] #[{ accessFlags := 2, nameIndex := 5, descriptorIndex := 6, attributes := #[] }] 32 2 #[67, 69] #[{ accessFlags := 26, nameIndex := 71, descriptorIndex := 72, attributes := #[] }])
  fields := #[{ name := "serialVersionUID", type := .long, accessFlags := 26, slot := 0, constantValue := 0 }]
  methods := #[k34m0]
  instanceTypes := #[.int]
  staticTypes := #[.long]
  resolved := Array.replicate 150 none
  statics := none }

def pool35 : Array CpInfo := pool [(2, .class_ 4), (1, u "java/lang/StackTraceElement"), (0, u "<init>"), (2, .class_ 10), (1, u "java/lang/Object"), (0, u "()V"), (2, u "format"), (0, u "B"), (2, u "classLoaderName"), (0, u "Ljava/lang/String;"), (2, u "moduleName"), (2, u "moduleVersion"), (12, u "declaringClass"), (4, u "methodName"), (2, u "fileName"), (2, u "lineNumber"), (0, u "I"), (65, u "declaringClassObject"), (0, u "Ljava/lang/Class;"), (33, .class_ 153), (1, u "java/lang/StackTraceElement$HashedModules"), (17, .class_ 172), (0, u "java/io/Serializable"), (0, u "NATIVE_METHOD"), (1, u "UNKNOWN_SOURCE"), (2, u "BUILTIN_CLASS_LOADER"), (1, u "JDK_NON_UPGRADEABLE_MODULE"), (1, u "serialVersionUID"), (0, u "J")] 51

def k35m0 : Method := { name := "<init>", desc := "()V", sig := { parameters := [], returnType := none }, accessFlags := 2, code := none }
/-- java/lang/StackTraceElement -/
def k35 : Class := { plain "java/lang/StackTraceElement" (some 0) with
  accessFlags := 49
  interfaces := #[2]
  cf := some (fileOf pool35 2 #[.nestMembers #[151]] #[{ accessFlags := 2, nameIndex := 5, descriptorIndex := 11, attributes := #[] }] 49 8 #[171] #[{ accessFlags := 26, nameIndex := 173, descriptorIndex := 19, attributes := #[] }, { accessFlags := 26, nameIndex := 175, descriptorIndex := 19, attributes := #[] }, { accessFlags := 130, nameIndex := 116, descriptorIndex := 117, attributes := #[] }, { accessFlags := 2, nameIndex := 18, descriptorIndex := 19, attributes := #[] }, { accessFlags := 2, nameIndex := 22, descriptorIndex := 19, attributes := #[] }, { accessFlags := 2, nameIndex := 25, descriptorIndex := 19, attributes := #[] }, { accessFlags := 2, nameIndex := 38, descriptorIndex := 19, attributes := #[] }, { accessFlags := 2, nameIndex := 43, descriptorIndex := 19, attributes := #[] }, { accessFlags := 2, nameIndex := 46, descriptorIndex := 19, attributes := #[] }, { accessFlags := 2, nameIndex := 49, descriptorIndex := 50, attributes := #[] }, { accessFlags := 2, nameIndex := 14, descriptorIndex := 15, attributes := #[] }, { accessFlags := 26, nameIndex := 178, descriptorIndex := 15, attributes := #[] }, { accessFlags := 26, nameIndex := 180, descriptorIndex := 15, attributes := #[] }, { accessFlags := 26, nameIndex := 182, descriptorIndex := 183, attributes := #[] }])
  fields := #[{ name := "NATIVE_METHOD", type := (.object "java/lang/String"), accessFlags := 26, slot := 0, constantValue := 0 }, { name := "UNKNOWN_SOURCE", type := (.object "java/lang/String"), accessFlags := 26, slot := 1, constantValue := 0 }, { name := "declaringClassObject", type := (.object "java/lang/Class"), accessFlags := 130, slot := 0, constantValue := 0 }, { name := "classLoaderName", type := (.object "java/lang/String"), accessFlags := 2, slot := 1, constantValue := 0 }, { name := "moduleName", type := (.object "java/lang/String"), accessFlags := 2, slot := 2, constantValue := 0 }, { name := "moduleVersion", type := (.object "java/lang/String"), accessFlags := 2, slot := 3, constantValue := 0 }, { name := "declaringClass", type := (.object "java/lang/String"), accessFlags := 2, slot := 4, constantValue := 0 }, { name := "methodName", type := (.object "java/lang/String"), accessFlags := 2, slot := 5, constantValue := 0 }, { name := "fileName", type := (.object "java/lang/String"), accessFlags := 2, slot := 6, constantValue := 0 }, { name := "lineNumber", type := .int, accessFlags := 2, slot := 7, constantValue := 0 }, { name := "format", type := .byte, accessFlags := 2, slot := 8, constantValue := 0 }, { name := "BUILTIN_CLASS_LOADER", type := .byte, accessFlags := 26, slot := 2, constantValue := 0 }, { name := "JDK_NON_UPGRADEABLE_MODULE", type := .byte, accessFlags := 26, slot := 3, constantValue := 0 }, { name := "serialVersionUID", type := .long, accessFlags := 26, slot := 4, constantValue := 0 }]
  methods := #[k35m0]
  instanceTypes := #[(.object "java/lang/Class"), (.object "java/lang/String"), (.object "java/lang/String"), (.object "java/lang/String"), (.object "java/lang/String"), (.object "java/lang/String"), (.object "java/lang/String"), .int, .byte]
  staticTypes := #[(.object "java/lang/String"), (.object "java/lang/String"), .byte, .byte, .long]
  resolved := Array.replicate 235 none
  statics := none }

/-- the primitive byte -/
def k36 : Class := { plain "byte" none with kind := .primitive 'B', accessFlags := 0x411 }
/-- [B -/
def k37 : Class := { plain "[B" (some 0) with kind := .array 36 .byte, interfaces := #[22, 2], accessFlags := 1041 }

/-- the primitive char -/
def k38 : Class := { plain "char" none with kind := .primitive 'C', accessFlags := 0x411 }
/-- [C -/
def k39 : Class := { plain "[C" (some 0) with kind := .array 38 .char, interfaces := #[22, 2], accessFlags := 1041 }

/-- the primitive int -/
def k40 : Class := { plain "int" none with kind := .primitive 'I', accessFlags := 0x411 }
/-- [I -/
def k41 : Class := { plain "[I" (some 0) with kind := .array 40 .int, interfaces := #[22, 2], accessFlags := 1041 }

/-- [Ljava/lang/Object; -/
def k42 : Class := { plain "[Ljava/lang/Object;" (some 0) with kind := .array 0 (.object "java/lang/Object"), interfaces := #[22, 2], accessFlags := 1041 }

/-- [Ljava/lang/StackTraceElement; -/
def k43 : Class := { plain "[Ljava/lang/StackTraceElement;" (some 0) with kind := .array 35 (.object "java/lang/StackTraceElement"), interfaces := #[22, 2], accessFlags := 1041 }

/-- [Ljava/lang/Throwable; -/
def k44 : Class := { plain "[Ljava/lang/Throwable;" (some 0) with kind := .array 9 (.object "java/lang/Throwable"), interfaces := #[22, 2], accessFlags := 1041 }

def heap : Heap := #[{ cls := 7, slots := #[.long 0, .int 1, .null, .int 0, .null, .int 0, .int 0], vm := .statics 7 },
  { cls := 9, slots := #[.long 0, .ref 9, .ref 10, .null, .null, .null, .null, .ref 11, .int 1], vm := .statics 9 },
  { cls := 17, slots := #[.int 0, .int 0, .null, .null, .ref 8, .ref 7, .int 0, .int 0, .long 0], vm := .statics 17 },
  { cls := 20, slots := #[.ref 12], vm := .statics 20 },
  { cls := 21, slots := #[.ref 13], vm := .statics 21 },
  { cls := 25, slots := #[.null, .null, .null], vm := .statics 25 },
  { cls := 26, slots := #[.int 0, .int 0, .int 0, .int 0, .int 0, .int 0, .int 0, .int 0, .null, .null, .ref 10, .null], vm := .statics 26 },
  { cls := 37, slots := #[.int 48, .int 49, .int 50, .int 51, .int 52, .int 53, .int 54, .int 55, .int 56, .int 57, .int 48, .int 49, .int 50, .int 51, .int 52, .int 53, .int 54, .int 55, .int 56, .int 57, .int 48, .int 49, .int 50, .int 51, .int 52, .int 53, .int 54, .int 55, .int 56, .int 57, .int 48, .int 49, .int 50, .int 51, .int 52, .int 53, .int 54, .int 55, .int 56, .int 57, .int 48, .int 49, .int 50, .int 51, .int 52, .int 53, .int 54, .int 55, .int 56, .int 57, .int 48, .int 49, .int 50, .int 51, .int 52, .int 53, .int 54, .int 55, .int 56, .int 57, .int 48, .int 49, .int 50, .int 51, .int 52, .int 53, .int 54, .int 55, .int 56, .int 57, .int 48, .int 49, .int 50, .int 51, .int 52, .int 53, .int 54, .int 55, .int 56, .int 57, .int 48, .int 49, .int 50, .int 51, .int 52, .int 53, .int 54, .int 55, .int 56, .int 57, .int 48, .int 49, .int 50, .int 51, .int 52, .int 53, .int 54, .int 55, .int 56, .int 57], vm := .none },
  { cls := 37, slots := #[.int 48, .int 48, .int 48, .int 48, .int 48, .int 48, .int 48, .int 48, .int 48, .int 48, .int 49, .int 49, .int 49, .int 49, .int 49, .int 49, .int 49, .int 49, .int 49, .int 49, .int 50, .int 50, .int 50, .int 50, .int 50, .int 50, .int 50, .int 50, .int 50, .int 50, .int 51, .int 51, .int 51, .int 51, .int 51, .int 51, .int 51, .int 51, .int 51, .int 51, .int 52, .int 52, .int 52, .int 52, .int 52, .int 52, .int 52, .int 52, .int 52, .int 52, .int 53, .int 53, .int 53, .int 53, .int 53, .int 53, .int 53, .int 53, .int 53, .int 53, .int 54, .int 54, .int 54, .int 54, .int 54, .int 54, .int 54, .int 54, .int 54, .int 54, .int 55, .int 55, .int 55, .int 55, .int 55, .int 55, .int 55, .int 55, .int 55, .int 55, .int 56, .int 56, .int 56, .int 56, .int 56, .int 56, .int 56, .int 56, .int 56, .int 56, .int 57, .int 57, .int 57, .int 57, .int 57, .int 57, .int 57, .int 57, .int 57, .int 57], vm := .none },
  { cls := 43, slots := #[], vm := .none },
  { cls := 34, slots := #[.int 0], vm := .none },
  { cls := 44, slots := #[], vm := .none },
  { cls := 20, slots := #[.int 0, .int 0], vm := .none },
  { cls := 21, slots := #[.null], vm := .none }]
def classes : Array Class := #[k0, k1, k2, k3, k4, k5, k6, k7, k8, k9, k10, k11, k12, k13, k14, k15, k16, k17, k18, k19, k20, k21, k22, k23, k24, k25, k26, k27, k28, k29, k30, k31, k32, k33, k34, k35, k36, k37, k38, k39, k40, k41, k42, k43, k44]
def interned : List (Array UInt16 × Addr) := []
def slotsUsed : Nat := 246
def theMethod : MethodId := ⟨1, 1⟩
def args0 : Array Value := #[.int 5, .int 5, .int 5]
def aboutOver (below : List Frame) : State where
  vm := { classes := classes, interned := interned.toArray }
  heap := heap
  slotsUsed := slotsUsed
  threads := #[{ frames := .invoking theMethod args0 :: below }]
def below0 : List Frame := [.native { method := ⟨0, 0⟩, args := #[] }]
def about1 : State := aboutOver below0
def p0 : Program := .bare "" "" ""
def e0 : Env := launch0.env 0 0 0
theorem w_frames : about1.frames = Frame.invoking theMethod args0 :: below0 := rfl
set_option maxRecDepth 65536 in
theorem w_args : argsFit about1.vm theMethod args0 = true := by decide +kernel
set_option maxRecDepth 65536 in
theorem w_heap : heapFits about1 = true := by decide +kernel
set_option maxRecDepth 65536 in
theorem w_runnable : about1.curStatus? = some .runnable := by decide +kernel
set_option maxRecDepth 65536 in
theorem w_alone : about1.alone = true := by decide +kernel
set_option maxRecDepth 65536 in
theorem w_named : about1.methodNamed? x = some theMethod := by decide +kernel
set_option maxRecDepth 65536 in
theorem w_hears : about1.hears theMethod below0 = true := by decide +kernel
set_option maxRecDepth 65536 in
theorem w_ripe : about1.ripe theMethod args0 below0 = true := by decide +kernel
theorem w_running : about1.status = .running := rfl
set_option maxRecDepth 65536 in
theorem w_room : about1.hasRoom e0.platform room_1 = true :=
  launch0.hasRoom_least _ room_1 (by decide +kernel) (by decide +kernel) (by decide +kernel) (by decide +kernel) (by decide +kernel) (by decide +kernel)
theorem allAtoms_all (ts : List Jvm.Cond) (a : Array Jvm.Value) (st : Jvm.State) : (allAtoms ts).before a st = ts.all (fun c => c.before a st) := by
  induction ts with
  | nil => rfl
  | cons c t ih =>
    show (Jvm.Cond.and c (allAtoms t)).before a st = _
    rw [Jvm.Cond.before_and, ih, List.all_cons]
def words1 : List Jvm.Cond := Jvm.Cond.code x code maxLocals ret :: tables_1
/-- a 'code' word, met by the world's own term for the bytes: nothing is compared byte by byte -/
theorem code_word {y : MethodName} {bytes : ByteArray} {mx : Nat} {rt : Option FieldType} {a : Array Value} {s : State} {m : MethodId} {meth : Method} {c : Code} (h1 : s.methodNamed? y = some m) (h2 : s.vm.method? m = some meth) (h3 : meth.code = some c) (h4 : c.code = bytes)
    (h5 : (c.maxLocals == mx && c.exceptionTable.isEmpty && decide (c.maxStack ≤ mostOperands) && decide (meth.sig.returnType = rt) && !meth.locks && decide (parseMethodDescriptor y.desc = some meth.sig)) = true) : (Jvm.Cond.code y bytes mx rt).before a s = true := by
  simp only [Bool.and_eq_true, beq_iff_eq, Bool.not_eq_true', decide_eq_true_eq] at h5
  obtain ⟨⟨⟨⟨⟨g1, g2⟩, g3⟩, g4⟩, g5⟩, g6⟩ := h5
  simp [Cond.before, Cond.holds, Cond.value, h1, h2, h3, h4, g1, g2, g3, g4, g5, g6]
def isCode : Jvm.Cond → Bool
  | .code _ _ _ _ => true
  | _ => false
theorem all_split {L : List Jvm.Cond} {P : Jvm.Cond → Bool} (h1 : L.all (fun c => isCode c || P c) = true) (h2 : ∀ c ∈ L.filter isCode, P c = true) : L.all P = true := by
  refine List.all_eq_true.mpr fun c hc => ?_
  have h := List.all_eq_true.mp h1 c hc
  rcases Bool.eq_false_or_eq_true (isCode c) with hi | hi
  · exact h2 c (List.mem_filter.mpr ⟨hc, hi⟩)
  · simpa [hi] using h
set_option maxRecDepth 65536 in
theorem w_c0 : (Jvm.Cond.code x code maxLocals ret).before args0 about1 = true := code_word (m := ⟨1, 1⟩) (meth := k1m1) (c := k1c1) (by decide +kernel) rfl rfl rfl (by decide +kernel)
set_option maxRecDepth 65536 in
theorem w_c1 : (Jvm.Cond.code ({ cls := "java/lang/String", name := "<init>", desc := "([C)V" } : Jvm.MethodName) jdk_42_method_3_code (2 : Nat) (Option.none : Option Jvm.ClassFile.FieldType)).before args0 about1 = true := code_word (m := ⟨7, 1⟩) (meth := k7m1) (c := k7c1) (by decide +kernel) rfl rfl rfl (by decide +kernel)
set_option maxRecDepth 65536 in
theorem w_c2 : (Jvm.Cond.code ({ cls := "java/lang/String", name := "<init>", desc := "([CIILjava/lang/Void;)V" } : Jvm.MethodName) jdk_42_method_149_code (6 : Nat) (Option.none : Option Jvm.ClassFile.FieldType)).before args0 about1 = true := code_word (m := ⟨7, 5⟩) (meth := k7m5) (c := k7c5) (by decide +kernel) rfl rfl rfl (by decide +kernel)
set_option maxRecDepth 65536 in
theorem w_c3 : (Jvm.Cond.code ({ cls := "java/lang/Object", name := "<init>", desc := "()V" } : Jvm.MethodName) object_method_1_code (1 : Nat) (Option.none : Option Jvm.ClassFile.FieldType)).before args0 about1 = true := code_word (m := ⟨0, 0⟩) (meth := k0m0) (c := k0c0) (by decide +kernel) rfl rfl rfl (by decide +kernel)
set_option maxRecDepth 65536 in
theorem w_c4 : (Jvm.Cond.code ({ cls := "java/lang/StringUTF16", name := "compress", desc := "([CII)[B" } : Jvm.MethodName) jdk_52_method_16_code (6 : Nat) (Option.some (Jvm.ClassFile.FieldType.array Jvm.ClassFile.FieldType.byte))).before args0 about1 = true := code_word (m := ⟨8, 2⟩) (meth := k8m2) (c := k8c2) (by decide +kernel) rfl rfl rfl (by decide +kernel)
set_option maxRecDepth 65536 in
theorem w_c5 : (Jvm.Cond.code ({ cls := "java/lang/StringUTF16", name := "compress", desc := "([CI[BII)I" } : Jvm.MethodName) jdk_52_method_21_code (7 : Nat) (Option.some Jvm.ClassFile.FieldType.int)).before args0 about1 = true := code_word (m := ⟨8, 3⟩) (meth := k8m3) (c := k8c3) (by decide +kernel) rfl rfl rfl (by decide +kernel)
set_option maxRecDepth 65536 in
theorem w_c6 : (Jvm.Cond.code ({ cls := "java/lang/StringUTF16", name := "coderFromArrayLen", desc := "([BI)B" } : Jvm.MethodName) jdk_52_method_15_code (2 : Nat) (Option.some Jvm.ClassFile.FieldType.byte)).before args0 about1 = true := code_word (m := ⟨8, 1⟩) (meth := k8m1) (c := k8c1) (by decide +kernel) rfl rfl rfl (by decide +kernel)
set_option maxRecDepth 65536 in
theorem w_c7 : (Jvm.Cond.code ({ cls := "com/example/precedence/precedence/MalformedMemberException", name := "<init>", desc := "(Ljava/lang/String;)V" } : Jvm.MethodName) prog_14_method_1_code (2 : Nat) (Option.none : Option Jvm.ClassFile.FieldType)).before args0 about1 = true := code_word (m := ⟨11, 0⟩) (meth := k11m0) (c := k11c0) (by decide +kernel) rfl rfl rfl (by decide +kernel)
set_option maxRecDepth 65536 in
theorem w_c8 : (Jvm.Cond.code ({ cls := "java/lang/Exception", name := "<init>", desc := "(Ljava/lang/String;)V" } : Jvm.MethodName) jdk_59_method_2_code (2 : Nat) (Option.none : Option Jvm.ClassFile.FieldType)).before args0 about1 = true := code_word (m := ⟨10, 1⟩) (meth := k10m1) (c := k10c1) (by decide +kernel) rfl rfl rfl (by decide +kernel)
set_option maxRecDepth 65536 in
theorem w_c9 : (Jvm.Cond.code ({ cls := "java/lang/Throwable", name := "<init>", desc := "(Ljava/lang/String;)V" } : Jvm.MethodName) jdk_78_method_2_code (2 : Nat) (Option.none : Option Jvm.ClassFile.FieldType)).before args0 about1 = true := code_word (m := ⟨9, 1⟩) (meth := k9m1) (c := k9c1) (by decide +kernel) rfl rfl rfl (by decide +kernel)
set_option maxRecDepth 65536 in
theorem w_c10 : (Jvm.Cond.code ({ cls := "java/lang/Throwable", name := "<init>", desc := "()V" } : Jvm.MethodName) jdk_78_method_1_code (1 : Nat) (Option.none : Option Jvm.ClassFile.FieldType)).before args0 about1 = true := code_word (m := ⟨9, 0⟩) (meth := k9m0) (c := k9c0) (by decide +kernel) rfl rfl rfl (by decide +kernel)
set_option maxRecDepth 65536 in
theorem w_c11 : (Jvm.Cond.code ({ cls := "com/example/precedence/precedence/MalformedMemberException", name := "at", desc := "(Ljava/nio/file/Path;Ljava/lang/String;I)Lcom/example/precedence/precedence/MalformedMemberException;" } : Jvm.MethodName) prog_14_method_3_code (4 : Nat) (Option.some (Jvm.ClassFile.FieldType.object "com/example/precedence/precedence/MalformedMemberException"))).before args0 about1 = true := code_word (m := ⟨11, 2⟩) (meth := k11m2) (c := k11c2) (by decide +kernel) rfl rfl rfl (by decide +kernel)
set_option maxRecDepth 65536 in
theorem w_c12 : (Jvm.Cond.code ({ cls := "com/example/precedence/precedence/MalformedMemberException", name := "<init>", desc := "(Ljava/nio/file/Path;Ljava/lang/String;ILjava/lang/String;)V" } : Jvm.MethodName) prog_14_method_2_code (5 : Nat) (Option.none : Option Jvm.ClassFile.FieldType)).before args0 about1 = true := code_word (m := ⟨11, 1⟩) (meth := k11m1) (c := k11c1) (by decide +kernel) rfl rfl rfl (by decide +kernel)
set_option maxRecDepth 65536 in
theorem w_c13 : (Jvm.Cond.code ({ cls := "java/lang/StringBuilder", name := "<init>", desc := "()V" } : Jvm.MethodName) jdk_67_method_1_code (1 : Nat) (Option.none : Option Jvm.ClassFile.FieldType)).before args0 about1 = true := code_word (m := ⟨14, 0⟩) (meth := k14m0) (c := k14c0) (by decide +kernel) rfl rfl rfl (by decide +kernel)
set_option maxRecDepth 65536 in
theorem w_c14 : (Jvm.Cond.code ({ cls := "java/lang/AbstractStringBuilder", name := "<init>", desc := "(I)V" } : Jvm.MethodName) jdk_68_method_2_code (2 : Nat) (Option.none : Option Jvm.ClassFile.FieldType)).before args0 about1 = true := code_word (m := ⟨13, 1⟩) (meth := k13m1) (c := k13c1) (by decide +kernel) rfl rfl rfl (by decide +kernel)
set_option maxRecDepth 65536 in
theorem w_c15 : (Jvm.Cond.code ({ cls := "java/lang/StringBuilder", name := "append", desc := "(Ljava/lang/String;)Ljava/lang/StringBuilder;" } : Jvm.MethodName) jdk_67_method_7_code (2 : Nat) (Option.some (Jvm.ClassFile.FieldType.object "java/lang/StringBuilder"))).before args0 about1 = true := code_word (m := ⟨14, 1⟩) (meth := k14m1) (c := k14c1) (by decide +kernel) rfl rfl rfl (by decide +kernel)
set_option maxRecDepth 65536 in
theorem w_c16 : (Jvm.Cond.code ({ cls := "java/lang/AbstractStringBuilder", name := "append", desc := "(Ljava/lang/String;)Ljava/lang/AbstractStringBuilder;" } : Jvm.MethodName) jdk_68_method_22_code (3 : Nat) (Option.some (Jvm.ClassFile.FieldType.object "java/lang/AbstractStringBuilder"))).before args0 about1 = true := code_word (m := ⟨13, 5⟩) (meth := k13m5) (c := k13c5) (by decide +kernel) rfl rfl rfl (by decide +kernel)
set_option maxRecDepth 65536 in
theorem w_c17 : (Jvm.Cond.code ({ cls := "java/lang/String", name := "length", desc := "()I" } : Jvm.MethodName) jdk_42_method_54_code (1 : Nat) (Option.some Jvm.ClassFile.FieldType.int)).before args0 about1 = true := code_word (m := ⟨7, 3⟩) (meth := k7m3) (c := k7c3) (by decide +kernel) rfl rfl rfl (by decide +kernel)
set_option maxRecDepth 65536 in
theorem w_c18 : (Jvm.Cond.code ({ cls := "java/lang/String", name := "coder", desc := "()B" } : Jvm.MethodName) jdk_42_method_152_code (1 : Nat) (Option.some Jvm.ClassFile.FieldType.byte)).before args0 about1 = true := code_word (m := ⟨7, 7⟩) (meth := k7m7) (c := k7c7) (by decide +kernel) rfl rfl rfl (by decide +kernel)
set_option maxRecDepth 65536 in
theorem w_c19 : (Jvm.Cond.code ({ cls := "java/lang/AbstractStringBuilder", name := "ensureCapacityInternal", desc := "(I)V" } : Jvm.MethodName) jdk_68_method_9_code (3 : Nat) (Option.none : Option Jvm.ClassFile.FieldType)).before args0 about1 = true := code_word (m := ⟨13, 3⟩) (meth := k13m3) (c := k13c3) (by decide +kernel) rfl rfl rfl (by decide +kernel)
set_option maxRecDepth 65536 in
theorem w_c20 : (Jvm.Cond.code ({ cls := "java/lang/AbstractStringBuilder", name := "putStringAt", desc := "(ILjava/lang/String;)V" } : Jvm.MethodName) jdk_68_method_73_code (3 : Nat) (Option.none : Option Jvm.ClassFile.FieldType)).before args0 about1 = true := code_word (m := ⟨13, 10⟩) (meth := k13m10) (c := k13c10) (by decide +kernel) rfl rfl rfl (by decide +kernel)
set_option maxRecDepth 65536 in
theorem w_c21 : (Jvm.Cond.code ({ cls := "java/lang/AbstractStringBuilder", name := "inflateIfNeededFor", desc := "(Ljava/lang/String;)V" } : Jvm.MethodName) jdk_68_method_71_code (2 : Nat) (Option.none : Option Jvm.ClassFile.FieldType)).before args0 about1 = true := code_word (m := ⟨13, 9⟩) (meth := k13m9) (c := k13c9) (by decide +kernel) rfl rfl rfl (by decide +kernel)
set_option maxRecDepth 65536 in
theorem w_c22 : (Jvm.Cond.code ({ cls := "java/lang/String", name := "getBytes", desc := "([BIB)V" } : Jvm.MethodName) jdk_42_method_147_code (4 : Nat) (Option.none : Option Jvm.ClassFile.FieldType)).before args0 about1 = true := code_word (m := ⟨7, 4⟩) (meth := k7m4) (c := k7c4) (by decide +kernel) rfl rfl rfl (by decide +kernel)
set_option maxRecDepth 65536 in
theorem w_c23 : (Jvm.Cond.code ({ cls := "java/lang/StringBuilder", name := "append", desc := "(I)Ljava/lang/StringBuilder;" } : Jvm.MethodName) jdk_67_method_15_code (2 : Nat) (Option.some (Jvm.ClassFile.FieldType.object "java/lang/StringBuilder"))).before args0 about1 = true := code_word (m := ⟨14, 2⟩) (meth := k14m2) (c := k14c2) (by decide +kernel) rfl rfl rfl (by decide +kernel)
set_option maxRecDepth 65536 in
theorem w_c24 : (Jvm.Cond.code ({ cls := "java/lang/AbstractStringBuilder", name := "append", desc := "(I)Ljava/lang/AbstractStringBuilder;" } : Jvm.MethodName) jdk_68_method_32_code (4 : Nat) (Option.some (Jvm.ClassFile.FieldType.object "java/lang/AbstractStringBuilder"))).before args0 about1 = true := code_word (m := ⟨13, 6⟩) (meth := k13m6) (c := k13c6) (by decide +kernel) rfl rfl rfl (by decide +kernel)
set_option maxRecDepth 65536 in
theorem w_c25 : (Jvm.Cond.code ({ cls := "java/lang/Integer", name := "stringSize", desc := "(I)I" } : Jvm.MethodName) jdk_33_method_13_code (4 : Nat) (Option.some Jvm.ClassFile.FieldType.int)).before args0 about1 = true := code_word (m := ⟨17, 1⟩) (meth := k17m1) (c := k17c1) (by decide +kernel) rfl rfl rfl (by decide +kernel)
set_option maxRecDepth 65536 in
theorem w_c26 : (Jvm.Cond.code ({ cls := "java/lang/AbstractStringBuilder", name := "isLatin1", desc := "()Z" } : Jvm.MethodName) jdk_68_method_68_code (1 : Nat) (Option.some Jvm.ClassFile.FieldType.boolean)).before args0 about1 = true := code_word (m := ⟨13, 8⟩) (meth := k13m8) (c := k13c8) (by decide +kernel) rfl rfl rfl (by decide +kernel)
set_option maxRecDepth 65536 in
theorem w_c27 : (Jvm.Cond.code ({ cls := "java/lang/Integer", name := "getChars", desc := "(II[B)I" } : Jvm.MethodName) jdk_33_method_12_code (7 : Nat) (Option.some Jvm.ClassFile.FieldType.int)).before args0 about1 = true := code_word (m := ⟨17, 0⟩) (meth := k17m0) (c := k17c0) (by decide +kernel) rfl rfl rfl (by decide +kernel)
set_option maxRecDepth 65536 in
theorem w_c28 : (Jvm.Cond.code ({ cls := "java/lang/StringBuilder", name := "toString", desc := "()Ljava/lang/String;" } : Jvm.MethodName) jdk_67_method_42_code (1 : Nat) (Option.some (Jvm.ClassFile.FieldType.object "java/lang/String"))).before args0 about1 = true := code_word (m := ⟨14, 3⟩) (meth := k14m3) (c := k14c3) (by decide +kernel) rfl rfl rfl (by decide +kernel)
set_option maxRecDepth 65536 in
theorem w_c29 : (Jvm.Cond.code ({ cls := "java/lang/String", name := "<init>", desc := "(Ljava/lang/StringBuilder;)V" } : Jvm.MethodName) jdk_42_method_53_code (2 : Nat) (Option.none : Option Jvm.ClassFile.FieldType)).before args0 about1 = true := code_word (m := ⟨7, 2⟩) (meth := k7m2) (c := k7c2) (by decide +kernel) rfl rfl rfl (by decide +kernel)
set_option maxRecDepth 65536 in
theorem w_c30 : (Jvm.Cond.code ({ cls := "java/lang/String", name := "<init>", desc := "(Ljava/lang/AbstractStringBuilder;Ljava/lang/Void;)V" } : Jvm.MethodName) jdk_42_method_150_code (5 : Nat) (Option.none : Option Jvm.ClassFile.FieldType)).before args0 about1 = true := code_word (m := ⟨7, 6⟩) (meth := k7m6) (c := k7c6) (by decide +kernel) rfl rfl rfl (by decide +kernel)
set_option maxRecDepth 65536 in
theorem w_c31 : (Jvm.Cond.code ({ cls := "java/lang/AbstractStringBuilder", name := "getValue", desc := "()[B" } : Jvm.MethodName) jdk_68_method_64_code (1 : Nat) (Option.some (Jvm.ClassFile.FieldType.array Jvm.ClassFile.FieldType.byte))).before args0 about1 = true := code_word (m := ⟨13, 7⟩) (meth := k13m7) (c := k13c7) (by decide +kernel) rfl rfl rfl (by decide +kernel)
set_option maxRecDepth 65536 in
theorem w_c32 : (Jvm.Cond.code ({ cls := "java/lang/StringBuilder", name := "length", desc := "()I" } : Jvm.MethodName) jdk_67_method_93_code (1 : Nat) (Option.some Jvm.ClassFile.FieldType.int)).before args0 about1 = true := code_word (m := ⟨14, 4⟩) (meth := k14m4) (c := k14c4) (by decide +kernel) rfl rfl rfl (by decide +kernel)
set_option maxRecDepth 65536 in
theorem w_c33 : (Jvm.Cond.code ({ cls := "java/lang/AbstractStringBuilder", name := "length", desc := "()I" } : Jvm.MethodName) jdk_68_method_6_code (1 : Nat) (Option.some Jvm.ClassFile.FieldType.int)).before args0 about1 = true := code_word (m := ⟨13, 2⟩) (meth := k13m2) (c := k13c2) (by decide +kernel) rfl rfl rfl (by decide +kernel)
set_option maxRecDepth 65536 in
theorem w_c34 : (Jvm.Cond.code ({ cls := "java/util/Arrays", name := "copyOfRange", desc := "([BII)[B" } : Jvm.MethodName) jdk_65_method_132_code (3 : Nat) (Option.some (Jvm.ClassFile.FieldType.array Jvm.ClassFile.FieldType.byte))).before args0 about1 = true := code_word (m := ⟨18, 3⟩) (meth := k18m3) (c := k18c3) (by decide +kernel) rfl rfl rfl (by decide +kernel)
set_option maxRecDepth 65536 in
theorem w_c35 : (Jvm.Cond.code ({ cls := "java/util/Arrays", name := "copyOfRangeByte", desc := "([BII)[B" } : Jvm.MethodName) jdk_65_method_133_code (5 : Nat) (Option.some (Jvm.ClassFile.FieldType.array Jvm.ClassFile.FieldType.byte))).before args0 about1 = true := code_word (m := ⟨18, 4⟩) (meth := k18m4) (c := k18c4) (by decide +kernel) rfl rfl rfl (by decide +kernel)
set_option maxRecDepth 65536 in
theorem w_c36 : (Jvm.Cond.code ({ cls := "java/util/Arrays", name := "checkLength", desc := "(II)V" } : Jvm.MethodName) jdk_65_method_131_code (2 : Nat) (Option.none : Option Jvm.ClassFile.FieldType)).before args0 about1 = true := code_word (m := ⟨18, 2⟩) (meth := k18m2) (c := k18c2) (by decide +kernel) rfl rfl rfl (by decide +kernel)
set_option maxRecDepth 65536 in
theorem w_c37 : (Jvm.Cond.code ({ cls := "java/lang/Math", name := "min", desc := "(II)I" } : Jvm.MethodName) jdk_29_method_69_code (2 : Nat) (Option.some Jvm.ClassFile.FieldType.int)).before args0 about1 = true := code_word (m := ⟨19, 2⟩) (meth := k19m2) (c := k19c2) (by decide +kernel) rfl rfl rfl (by decide +kernel)
set_option maxRecDepth 65536 in
theorem w_c38 : (Jvm.Cond.code ({ cls := "com/example/precedence/precedence/MalformedMemberException", name := "line", desc := "()Ljava/util/OptionalInt;" } : Jvm.MethodName) prog_14_method_5_code (1 : Nat) (Option.some (Jvm.ClassFile.FieldType.object "java/util/OptionalInt"))).before args0 about1 = true := code_word (m := ⟨11, 4⟩) (meth := k11m4) (c := k11c4) (by decide +kernel) rfl rfl rfl (by decide +kernel)
set_option maxRecDepth 65536 in
theorem w_c39 : (Jvm.Cond.code ({ cls := "java/util/OptionalInt", name := "empty", desc := "()Ljava/util/OptionalInt;" } : Jvm.MethodName) jdk_2649_method_2_code (0 : Nat) (Option.some (Jvm.ClassFile.FieldType.object "java/util/OptionalInt"))).before args0 about1 = true := code_word (m := ⟨20, 1⟩) (meth := k20m1) (c := k20c1) (by decide +kernel) rfl rfl rfl (by decide +kernel)
set_option maxRecDepth 65536 in
theorem w_c40 : (Jvm.Cond.code ({ cls := "com/example/precedence/precedence/MalformedMemberException", name := "file", desc := "()Ljava/util/Optional;" } : Jvm.MethodName) prog_14_method_4_code (1 : Nat) (Option.some (Jvm.ClassFile.FieldType.object "java/util/Optional"))).before args0 about1 = true := code_word (m := ⟨11, 3⟩) (meth := k11m3) (c := k11c3) (by decide +kernel) rfl rfl rfl (by decide +kernel)
set_option maxRecDepth 65536 in
theorem w_c41 : (Jvm.Cond.code ({ cls := "java/util/Optional", name := "ofNullable", desc := "(Ljava/lang/Object;)Ljava/util/Optional;" } : Jvm.MethodName) jdk_32_method_4_code (1 : Nat) (Option.some (Jvm.ClassFile.FieldType.object "java/util/Optional"))).before args0 about1 = true := code_word (m := ⟨21, 0⟩) (meth := k21m0) (c := k21c0) (by decide +kernel) rfl rfl rfl (by decide +kernel)
set_option maxRecDepth 65536 in
theorem w_c42 : (Jvm.Cond.code ({ cls := "java/util/Optional", name := "isPresent", desc := "()Z" } : Jvm.MethodName) jdk_32_method_6_code (1 : Nat) (Option.some Jvm.ClassFile.FieldType.boolean)).before args0 about1 = true := code_word (m := ⟨21, 1⟩) (meth := k21m1) (c := k21c1) (by decide +kernel) rfl rfl rfl (by decide +kernel)
set_option maxRecDepth 65536 in
theorem w_c43 : (Jvm.Cond.code ({ cls := "java/util/OptionalInt", name := "isPresent", desc := "()Z" } : Jvm.MethodName) jdk_2649_method_6_code (1 : Nat) (Option.some Jvm.ClassFile.FieldType.boolean)).before args0 about1 = true := code_word (m := ⟨20, 2⟩) (meth := k20m2) (c := k20c2) (by decide +kernel) rfl rfl rfl (by decide +kernel)
set_option maxRecDepth 65536 in
theorem w_c44 : (Jvm.Cond.code ({ cls := "java/lang/AbstractStringBuilder", name := "newCapacity", desc := "(I)I" } : Jvm.MethodName) jdk_68_method_10_code (6 : Nat) (Option.some Jvm.ClassFile.FieldType.int)).before args0 about1 = true := code_word (m := ⟨13, 4⟩) (meth := k13m4) (c := k13c4) (by decide +kernel) rfl rfl rfl (by decide +kernel)
set_option maxRecDepth 65536 in
theorem w_c45 : (Jvm.Cond.code ({ cls := "jdk/internal/util/ArraysSupport", name := "newLength", desc := "(III)I" } : Jvm.MethodName) jdk_48_method_27_code (4 : Nat) (Option.some Jvm.ClassFile.FieldType.int)).before args0 about1 = true := code_word (m := ⟨23, 1⟩) (meth := k23m1) (c := k23c1) (by decide +kernel) rfl rfl rfl (by decide +kernel)
set_option maxRecDepth 65536 in
theorem w_c46 : (Jvm.Cond.code ({ cls := "java/lang/Math", name := "max", desc := "(II)I" } : Jvm.MethodName) jdk_29_method_65_code (2 : Nat) (Option.some Jvm.ClassFile.FieldType.int)).before args0 about1 = true := code_word (m := ⟨19, 1⟩) (meth := k19m1) (c := k19c1) (by decide +kernel) rfl rfl rfl (by decide +kernel)
set_option maxRecDepth 65536 in
theorem w_c47 : (Jvm.Cond.code ({ cls := "java/util/Arrays", name := "copyOf", desc := "([BI)[B" } : Jvm.MethodName) jdk_65_method_121_code (3 : Nat) (Option.some (Jvm.ClassFile.FieldType.array Jvm.ClassFile.FieldType.byte))).before args0 about1 = true := code_word (m := ⟨18, 1⟩) (meth := k18m1) (c := k18c1) (by decide +kernel) rfl rfl rfl (by decide +kernel)
def codes1 : List Jvm.Cond := [Jvm.Cond.code x code maxLocals ret, Jvm.Cond.code ({ cls := "java/lang/String", name := "<init>", desc := "([C)V" } : Jvm.MethodName) jdk_42_method_3_code (2 : Nat) (Option.none : Option Jvm.ClassFile.FieldType), Jvm.Cond.code ({ cls := "java/lang/String", name := "<init>", desc := "([CIILjava/lang/Void;)V" } : Jvm.MethodName) jdk_42_method_149_code (6 : Nat) (Option.none : Option Jvm.ClassFile.FieldType), Jvm.Cond.code ({ cls := "java/lang/Object", name := "<init>", desc := "()V" } : Jvm.MethodName) object_method_1_code (1 : Nat) (Option.none : Option Jvm.ClassFile.FieldType), Jvm.Cond.code ({ cls := "java/lang/StringUTF16", name := "compress", desc := "([CII)[B" } : Jvm.MethodName) jdk_52_method_16_code (6 : Nat) (Option.some (Jvm.ClassFile.FieldType.array Jvm.ClassFile.FieldType.byte)), Jvm.Cond.code ({ cls := "java/lang/StringUTF16", name := "compress", desc := "([CI[BII)I" } : Jvm.MethodName) jdk_52_method_21_code (7 : Nat) (Option.some Jvm.ClassFile.FieldType.int), Jvm.Cond.code ({ cls := "java/lang/StringUTF16", name := "coderFromArrayLen", desc := "([BI)B" } : Jvm.MethodName) jdk_52_method_15_code (2 : Nat) (Option.some Jvm.ClassFile.FieldType.byte), Jvm.Cond.code ({ cls := "com/example/precedence/precedence/MalformedMemberException", name := "<init>", desc := "(Ljava/lang/String;)V" } : Jvm.MethodName) prog_14_method_1_code (2 : Nat) (Option.none : Option Jvm.ClassFile.FieldType), Jvm.Cond.code ({ cls := "java/lang/Exception", name := "<init>", desc := "(Ljava/lang/String;)V" } : Jvm.MethodName) jdk_59_method_2_code (2 : Nat) (Option.none : Option Jvm.ClassFile.FieldType), Jvm.Cond.code ({ cls := "java/lang/Throwable", name := "<init>", desc := "(Ljava/lang/String;)V" } : Jvm.MethodName) jdk_78_method_2_code (2 : Nat) (Option.none : Option Jvm.ClassFile.FieldType), Jvm.Cond.code ({ cls := "java/lang/Throwable", name := "<init>", desc := "()V" } : Jvm.MethodName) jdk_78_method_1_code (1 : Nat) (Option.none : Option Jvm.ClassFile.FieldType), Jvm.Cond.code ({ cls := "com/example/precedence/precedence/MalformedMemberException", name := "at", desc := "(Ljava/nio/file/Path;Ljava/lang/String;I)Lcom/example/precedence/precedence/MalformedMemberException;" } : Jvm.MethodName) prog_14_method_3_code (4 : Nat) (Option.some (Jvm.ClassFile.FieldType.object "com/example/precedence/precedence/MalformedMemberException")), Jvm.Cond.code ({ cls := "com/example/precedence/precedence/MalformedMemberException", name := "<init>", desc := "(Ljava/nio/file/Path;Ljava/lang/String;ILjava/lang/String;)V" } : Jvm.MethodName) prog_14_method_2_code (5 : Nat) (Option.none : Option Jvm.ClassFile.FieldType), Jvm.Cond.code ({ cls := "java/lang/StringBuilder", name := "<init>", desc := "()V" } : Jvm.MethodName) jdk_67_method_1_code (1 : Nat) (Option.none : Option Jvm.ClassFile.FieldType), Jvm.Cond.code ({ cls := "java/lang/AbstractStringBuilder", name := "<init>", desc := "(I)V" } : Jvm.MethodName) jdk_68_method_2_code (2 : Nat) (Option.none : Option Jvm.ClassFile.FieldType), Jvm.Cond.code ({ cls := "java/lang/StringBuilder", name := "append", desc := "(Ljava/lang/String;)Ljava/lang/StringBuilder;" } : Jvm.MethodName) jdk_67_method_7_code (2 : Nat) (Option.some (Jvm.ClassFile.FieldType.object "java/lang/StringBuilder")), Jvm.Cond.code ({ cls := "java/lang/AbstractStringBuilder", name := "append", desc := "(Ljava/lang/String;)Ljava/lang/AbstractStringBuilder;" } : Jvm.MethodName) jdk_68_method_22_code (3 : Nat) (Option.some (Jvm.ClassFile.FieldType.object "java/lang/AbstractStringBuilder")), Jvm.Cond.code ({ cls := "java/lang/String", name := "length", desc := "()I" } : Jvm.MethodName) jdk_42_method_54_code (1 : Nat) (Option.some Jvm.ClassFile.FieldType.int), Jvm.Cond.code ({ cls := "java/lang/String", name := "coder", desc := "()B" } : Jvm.MethodName) jdk_42_method_152_code (1 : Nat) (Option.some Jvm.ClassFile.FieldType.byte), Jvm.Cond.code ({ cls := "java/lang/AbstractStringBuilder", name := "ensureCapacityInternal", desc := "(I)V" } : Jvm.MethodName) jdk_68_method_9_code (3 : Nat) (Option.none : Option Jvm.ClassFile.FieldType), Jvm.Cond.code ({ cls := "java/lang/AbstractStringBuilder", name := "putStringAt", desc := "(ILjava/lang/String;)V" } : Jvm.MethodName) jdk_68_method_73_code (3 : Nat) (Option.none : Option Jvm.ClassFile.FieldType), Jvm.Cond.code ({ cls := "java/lang/AbstractStringBuilder", name := "inflateIfNeededFor", desc := "(Ljava/lang/String;)V" } : Jvm.MethodName) jdk_68_method_71_code (2 : Nat) (Option.none : Option Jvm.ClassFile.FieldType), Jvm.Cond.code ({ cls := "java/lang/String", name := "getBytes", desc := "([BIB)V" } : Jvm.MethodName) jdk_42_method_147_code (4 : Nat) (Option.none : Option Jvm.ClassFile.FieldType), Jvm.Cond.code ({ cls := "java/lang/StringBuilder", name := "append", desc := "(I)Ljava/lang/StringBuilder;" } : Jvm.MethodName) jdk_67_method_15_code (2 : Nat) (Option.some (Jvm.ClassFile.FieldType.object "java/lang/StringBuilder")), Jvm.Cond.code ({ cls := "java/lang/AbstractStringBuilder", name := "append", desc := "(I)Ljava/lang/AbstractStringBuilder;" } : Jvm.MethodName) jdk_68_method_32_code (4 : Nat) (Option.some (Jvm.ClassFile.FieldType.object "java/lang/AbstractStringBuilder")), Jvm.Cond.code ({ cls := "java/lang/Integer", name := "stringSize", desc := "(I)I" } : Jvm.MethodName) jdk_33_method_13_code (4 : Nat) (Option.some Jvm.ClassFile.FieldType.int), Jvm.Cond.code ({ cls := "java/lang/AbstractStringBuilder", name := "isLatin1", desc := "()Z" } : Jvm.MethodName) jdk_68_method_68_code (1 : Nat) (Option.some Jvm.ClassFile.FieldType.boolean), Jvm.Cond.code ({ cls := "java/lang/Integer", name := "getChars", desc := "(II[B)I" } : Jvm.MethodName) jdk_33_method_12_code (7 : Nat) (Option.some Jvm.ClassFile.FieldType.int), Jvm.Cond.code ({ cls := "java/lang/StringBuilder", name := "toString", desc := "()Ljava/lang/String;" } : Jvm.MethodName) jdk_67_method_42_code (1 : Nat) (Option.some (Jvm.ClassFile.FieldType.object "java/lang/String")), Jvm.Cond.code ({ cls := "java/lang/String", name := "<init>", desc := "(Ljava/lang/StringBuilder;)V" } : Jvm.MethodName) jdk_42_method_53_code (2 : Nat) (Option.none : Option Jvm.ClassFile.FieldType), Jvm.Cond.code ({ cls := "java/lang/String", name := "<init>", desc := "(Ljava/lang/AbstractStringBuilder;Ljava/lang/Void;)V" } : Jvm.MethodName) jdk_42_method_150_code (5 : Nat) (Option.none : Option Jvm.ClassFile.FieldType), Jvm.Cond.code ({ cls := "java/lang/AbstractStringBuilder", name := "getValue", desc := "()[B" } : Jvm.MethodName) jdk_68_method_64_code (1 : Nat) (Option.some (Jvm.ClassFile.FieldType.array Jvm.ClassFile.FieldType.byte)), Jvm.Cond.code ({ cls := "java/lang/StringBuilder", name := "length", desc := "()I" } : Jvm.MethodName) jdk_67_method_93_code (1 : Nat) (Option.some Jvm.ClassFile.FieldType.int), Jvm.Cond.code ({ cls := "java/lang/AbstractStringBuilder", name := "length", desc := "()I" } : Jvm.MethodName) jdk_68_method_6_code (1 : Nat) (Option.some Jvm.ClassFile.FieldType.int), Jvm.Cond.code ({ cls := "java/util/Arrays", name := "copyOfRange", desc := "([BII)[B" } : Jvm.MethodName) jdk_65_method_132_code (3 : Nat) (Option.some (Jvm.ClassFile.FieldType.array Jvm.ClassFile.FieldType.byte)), Jvm.Cond.code ({ cls := "java/util/Arrays", name := "copyOfRangeByte", desc := "([BII)[B" } : Jvm.MethodName) jdk_65_method_133_code (5 : Nat) (Option.some (Jvm.ClassFile.FieldType.array Jvm.ClassFile.FieldType.byte)), Jvm.Cond.code ({ cls := "java/util/Arrays", name := "checkLength", desc := "(II)V" } : Jvm.MethodName) jdk_65_method_131_code (2 : Nat) (Option.none : Option Jvm.ClassFile.FieldType), Jvm.Cond.code ({ cls := "java/lang/Math", name := "min", desc := "(II)I" } : Jvm.MethodName) jdk_29_method_69_code (2 : Nat) (Option.some Jvm.ClassFile.FieldType.int), Jvm.Cond.code ({ cls := "com/example/precedence/precedence/MalformedMemberException", name := "line", desc := "()Ljava/util/OptionalInt;" } : Jvm.MethodName) prog_14_method_5_code (1 : Nat) (Option.some (Jvm.ClassFile.FieldType.object "java/util/OptionalInt")), Jvm.Cond.code ({ cls := "java/util/OptionalInt", name := "empty", desc := "()Ljava/util/OptionalInt;" } : Jvm.MethodName) jdk_2649_method_2_code (0 : Nat) (Option.some (Jvm.ClassFile.FieldType.object "java/util/OptionalInt")), Jvm.Cond.code ({ cls := "com/example/precedence/precedence/MalformedMemberException", name := "file", desc := "()Ljava/util/Optional;" } : Jvm.MethodName) prog_14_method_4_code (1 : Nat) (Option.some (Jvm.ClassFile.FieldType.object "java/util/Optional")), Jvm.Cond.code ({ cls := "java/util/Optional", name := "ofNullable", desc := "(Ljava/lang/Object;)Ljava/util/Optional;" } : Jvm.MethodName) jdk_32_method_4_code (1 : Nat) (Option.some (Jvm.ClassFile.FieldType.object "java/util/Optional")), Jvm.Cond.code ({ cls := "java/util/Optional", name := "isPresent", desc := "()Z" } : Jvm.MethodName) jdk_32_method_6_code (1 : Nat) (Option.some Jvm.ClassFile.FieldType.boolean), Jvm.Cond.code ({ cls := "java/util/OptionalInt", name := "isPresent", desc := "()Z" } : Jvm.MethodName) jdk_2649_method_6_code (1 : Nat) (Option.some Jvm.ClassFile.FieldType.boolean), Jvm.Cond.code ({ cls := "java/lang/AbstractStringBuilder", name := "newCapacity", desc := "(I)I" } : Jvm.MethodName) jdk_68_method_10_code (6 : Nat) (Option.some Jvm.ClassFile.FieldType.int), Jvm.Cond.code ({ cls := "jdk/internal/util/ArraysSupport", name := "newLength", desc := "(III)I" } : Jvm.MethodName) jdk_48_method_27_code (4 : Nat) (Option.some Jvm.ClassFile.FieldType.int), Jvm.Cond.code ({ cls := "java/lang/Math", name := "max", desc := "(II)I" } : Jvm.MethodName) jdk_29_method_65_code (2 : Nat) (Option.some Jvm.ClassFile.FieldType.int), Jvm.Cond.code ({ cls := "java/util/Arrays", name := "copyOf", desc := "([BI)[B" } : Jvm.MethodName) jdk_65_method_121_code (3 : Nat) (Option.some (Jvm.ClassFile.FieldType.array Jvm.ClassFile.FieldType.byte))]
set_option maxRecDepth 65536 in
theorem codes_eq : words1.filter isCode = codes1 := rfl
theorem w_codes : ∀ c ∈ words1.filter isCode, c.before args0 about1 = true := by
  rw [codes_eq]
  intro c hc
  simp only [codes1, List.mem_cons, List.not_mem_nil, or_false] at hc
  rcases hc with rfl | rfl | rfl | rfl | rfl | rfl | rfl | rfl | rfl | rfl | rfl | rfl | rfl | rfl | rfl | rfl | rfl | rfl | rfl | rfl | rfl | rfl | rfl | rfl | rfl | rfl | rfl | rfl | rfl | rfl | rfl | rfl | rfl | rfl | rfl | rfl | rfl | rfl | rfl | rfl | rfl | rfl | rfl | rfl | rfl | rfl | rfl | rfl
  · exact w_c0
  · exact w_c1
  · exact w_c2
  · exact w_c3
  · exact w_c4
  · exact w_c5
  · exact w_c6
  · exact w_c7
  · exact w_c8
  · exact w_c9
  · exact w_c10
  · exact w_c11
  · exact w_c12
  · exact w_c13
  · exact w_c14
  · exact w_c15
  · exact w_c16
  · exact w_c17
  · exact w_c18
  · exact w_c19
  · exact w_c20
  · exact w_c21
  · exact w_c22
  · exact w_c23
  · exact w_c24
  · exact w_c25
  · exact w_c26
  · exact w_c27
  · exact w_c28
  · exact w_c29
  · exact w_c30
  · exact w_c31
  · exact w_c32
  · exact w_c33
  · exact w_c34
  · exact w_c35
  · exact w_c36
  · exact w_c37
  · exact w_c38
  · exact w_c39
  · exact w_c40
  · exact w_c41
  · exact w_c42
  · exact w_c43
  · exact w_c44
  · exact w_c45
  · exact w_c46
  · exact w_c47
set_option maxRecDepth 65536 in
theorem w_t1 : (words1.take 24).all (fun c => isCode c || c.before args0 about1) = true := by decide +kernel
set_option maxRecDepth 65536 in
theorem w_t2 : ((words1.drop 24).take 24).all (fun c => isCode c || c.before args0 about1) = true := by decide +kernel
set_option maxRecDepth 65536 in
theorem w_t3 : (((words1.drop 24).drop 24).take 24).all (fun c => isCode c || c.before args0 about1) = true := by decide +kernel
set_option maxRecDepth 65536 in
theorem w_t4 : ((((words1.drop 24).drop 24).drop 24).take 24).all (fun c => isCode c || c.before args0 about1) = true := by decide +kernel
set_option maxRecDepth 65536 in
theorem w_t5 : (((((words1.drop 24).drop 24).drop 24).drop 24).take 24).all (fun c => isCode c || c.before args0 about1) = true := by decide +kernel
set_option maxRecDepth 65536 in
theorem w_t6 : ((((((words1.drop 24).drop 24).drop 24).drop 24).drop 24).take 24).all (fun c => isCode c || c.before args0 about1) = true := by decide +kernel
set_option maxRecDepth 65536 in
theorem w_t7 : (((((((words1.drop 24).drop 24).drop 24).drop 24).drop 24).drop 24).take 24).all (fun c => isCode c || c.before args0 about1) = true := by decide +kernel
set_option maxRecDepth 65536 in
theorem w_t8 : ((((((((words1.drop 24).drop 24).drop 24).drop 24).drop 24).drop 24).drop 24).take 24).all (fun c => isCode c || c.before args0 about1) = true := by decide +kernel
set_option maxRecDepth 65536 in
theorem w_t9 : (((((((((words1.drop 24).drop 24).drop 24).drop 24).drop 24).drop 24).drop 24).drop 24).take 24).all (fun c => isCode c || c.before args0 about1) = true := by decide +kernel
set_option maxRecDepth 65536 in
theorem w_t10 : ((((((((((words1.drop 24).drop 24).drop 24).drop 24).drop 24).drop 24).drop 24).drop 24).drop 24).take 24).all (fun c => isCode c || c.before args0 about1) = true := by decide +kernel
set_option maxRecDepth 65536 in
theorem w_t11 : (((((((((((words1.drop 24).drop 24).drop 24).drop 24).drop 24).drop 24).drop 24).drop 24).drop 24).drop 24).take 24).all (fun c => isCode c || c.before args0 about1) = true := by decide +kernel
set_option maxRecDepth 65536 in
theorem w_t12 : ((((((((((((words1.drop 24).drop 24).drop 24).drop 24).drop 24).drop 24).drop 24).drop 24).drop 24).drop 24).drop 24).take 24).all (fun c => isCode c || c.before args0 about1) = true := by decide +kernel
set_option maxRecDepth 65536 in
theorem w_t13 : ((((((((((((words1.drop 24).drop 24).drop 24).drop 24).drop 24).drop 24).drop 24).drop 24).drop 24).drop 24).drop 24).drop 24).all (fun c => isCode c || c.before args0 about1) = true := by decide +kernel
theorem w_tables : (allAtoms (Jvm.Cond.code x code maxLocals ret :: tables_1)).before args0 about1 = true := by
  rw [allAtoms_all]
  show words1.all (fun c => c.before args0 about1) = true
  refine all_split ?_ w_codes
  rw [← List.take_append_drop 24 words1, List.all_append, w_t1, ← List.take_append_drop 24 (words1.drop 24), List.all_append, w_t2, ← List.take_append_drop 24 ((words1.drop 24).drop 24), List.all_append, w_t3, ← List.take_append_drop 24 (((words1.drop 24).drop 24).drop 24), List.all_append, w_t4, ← List.take_append_drop 24 ((((words1.drop 24).drop 24).drop 24).drop 24), List.all_append, w_t5, ← List.take_append_drop 24 (((((words1.drop 24).drop 24).drop 24).drop 24).drop 24), List.all_append, w_t6, ← List.take_append_drop 24 ((((((words1.drop 24).drop 24).drop 24).drop 24).drop 24).drop 24), List.all_append, w_t7, ← List.take_append_drop 24 (((((((words1.drop 24).drop 24).drop 24).drop 24).drop 24).drop 24).drop 24), List.all_append, w_t8, ← List.take_append_drop 24 ((((((((words1.drop 24).drop 24).drop 24).drop 24).drop 24).drop 24).drop 24).drop 24), List.all_append, w_t9, ← List.take_append_drop 24 (((((((((words1.drop 24).drop 24).drop 24).drop 24).drop 24).drop 24).drop 24).drop 24).drop 24), List.all_append, w_t10, ← List.take_append_drop 24 ((((((((((words1.drop 24).drop 24).drop 24).drop 24).drop 24).drop 24).drop 24).drop 24).drop 24).drop 24), List.all_append, w_t11, ← List.take_append_drop 24 (((((((((((words1.drop 24).drop 24).drop 24).drop 24).drop 24).drop 24).drop 24).drop 24).drop 24).drop 24).drop 24), List.all_append, w_t12, w_t13]
  rfl
set_option maxRecDepth 65536 in
theorem w_rest : rest_1_c.before args0 about1 = true := by decide +kernel
set_option maxRecDepth 65536 in
theorem w_case : (Jvm.Cond.and given_1 narrow_1).before args0 about1 = true := by decide +kernel
set_option maxRecDepth 65536 in
theorem w_consts : constsHeld consts_1 about1 := Jvm.Lit.constsHeldB_iff.mp (by decide +kernel)
theorem w_applies : (headSpec (Jvm.Cond.code x code maxLocals ret :: tables_1) room_1).applies x e0.platform about1 = true :=
  (Spec.applies_iff w_frames).mpr ⟨w_running, w_runnable, w_alone, w_named, w_hears, w_ripe, w_room, w_tables⟩
theorem atStart : AtStart classFile x code maxLocals ret World_1 tables_1 room_1 Calls_1 rest_1 Pre_1 launch0 p0 e0 about1 theMethod args0 below0 :=
  ⟨lists_1, trivial, launch0.admits_env _ _ _, launch0.least_env, fairChoices_fair.cas, fairChoices_fair.clock, w_frames, w_args, w_heap, w_applies, ⟨(by decide +kernel : framesKnown about1 = true), ⟨(by decide +kernel : tablesKnown about1 = true), ⟨w_consts, trivial⟩⟩⟩, w_rest, w_case⟩
end start1
theorem witness_1 : WitnessClaimed_1 := ⟨start1.p0, start1.e0, start1.about1, start1.theMethod, start1.args0, start1.below0, start1.atStart⟩
end Jvm.Pilot.@@N@@
