import JvmDerived
import JvmDerived.Pilot.@@N@@Statement
import JvmDerived.Pilot.@@N@@Code
set_option linter.unusedVariables false
set_option linter.unusedSimpArgs false
@@BLOCK:LamKit.lean.txt@@
namespace Jvm.Own
open Sem ClassFile Op Lib Jvm.Stand Jvm.Free Jvm.LawKit Jvm.RoadKit
/-! THE LAYER. A symbolic heap (a list of cells, each described), and W: from here the body runs to its end with what Q says. One law an instruction: what W asks behind it gives W ahead of it. -/
/-- a field: the class that declares it, its name, its descriptor -/
abbrev Fd : Type := String × String × String
/-- a cell: an object (its class; its known fields; what they hold), or an array (its component type; what it holds) -/
abbrev SC : Type := (String × List Fd × List Value) ⊕ (FieldType × List Value)
abbrev obj (C : String) (fs : List Fd) (vs : List Value) : SC := Sum.inl (C, fs, vs)
abbrev arr (t : FieldType) (vs : List Value) : SC := Sum.inr (t, vs)
/-- its address; may the walk write it; what it is -/
abbrev Ent : Type := Addr × Bool × SC
/-- a String constant that has been loaded: its class, its entry, its text, where it lies -/
abbrev LitE : Type := String × Nat × String × Addr
/-- the launch, the case's start, its arguments, is the frame the narrow one -/
abbrev Gx : Type := Launch × State × Array Value × Bool
abbrev Gx.l (G : Gx) : Launch := G.1
abbrev Gx.Z (G : Gx) : State := G.2.1
abbrev Gx.a0 (G : Gx) : Array Value := G.2.2.1
abbrev Gx.nw (G : Gx) : Bool := G.2.2.2
/-- what one invocation has: program, environment, the state at its start, its method .. -/
abbrev Kx : Type := Program × Env × State × MethodId × Array Value × List Frame × Method × Code
abbrev Kx.p (K : Kx) : Program := K.1
abbrev Kx.e (K : Kx) : Env := K.2.1
abbrev Kx.s (K : Kx) : State := K.2.2.1
abbrev Kx.m (K : Kx) : MethodId := K.2.2.2.1
abbrev Kx.args (K : Kx) : Array Value := K.2.2.2.2.1
abbrev Kx.below (K : Kx) : List Frame := K.2.2.2.2.2.1
abbrev Kx.meth (K : Kx) : Method := K.2.2.2.2.2.2.1
abbrev Kx.c (K : Kx) : Code := K.2.2.2.2.2.2.2

/-- the frames beneath are of methods that the tables know, if those of the start are -/
def FK (G : Gx) (fs : List Frame) : Prop := G.Z.vm.MethodsKnown → G.Z.vm.FramesKnown G.Z.frames → G.Z.vm.FramesKnown fs
theorem FK.start {l : Launch} {s : State} {a0 args : Array Value} {b : Bool} {m : MethodId} {below : List Frame} (hf : s.frames = .invoking m args :: below) : FK (l, s, a0, b) below := fun _ hF y hy => hF y (by show y ∈ s.frames; rw [hf]; exact List.mem_cons_of_mem _ hy)
theorem FK.call {G : Gx} {below fs : List Frame} {vm : Vm} {m : MethodId} {meth : Method} {g : JFrame} (h : FK G below) (hal : G.Z.vm.Alike vm) (hm : vm.method? m = some meth) (hg : g.method = m) (e : fs = .java g :: below) : FK G fs := fun hM hF y hy m' hy' => by
  subst e
  rcases List.mem_cons.mp hy with rfl | hy
  · cases hy'
    rw [hg]
    exact hM m meth (by rw [← hal.method?]; exact hm)
  · exact h hM hF y hy m' hy'

/-! ### the symbolic heap -/
def AV (Z : State) (h : Heap) (a : Addr) (w : Bool) (t : FieldType) (vs : List Value) : Prop :=
  ∃ c : Cell, Arr Z h a c t ∧ c.slots.toList = vs ∧ vs.length < 2147483648 ∧ (∀ v ∈ vs, fits t v = true) ∧ (w = true → (∀ C, t = .object C → Ovr Z c.cls C) ∧ (t = .byte → Z.vm.findClass "[B" = some c.cls))
def LaidAll (Z : State) (a0 : Array Value) (C : String) (fs : List Fd) : Prop :=
  (fs.map fun f => f.2.1).Nodup ∧ ∀ f ∈ fs, Laid Z a0 C f.1 f.2.1 f.2.2 ∧ ∃ t, parseFieldDescriptor f.2.2 = some t
theorem LaidAll.cons {Z : State} {a0 : Array Value} {C O n d : String} {t : FieldType} {fs : List Fd} (h : Laid Z a0 C O n d) (ht : parseFieldDescriptor d = some t) (r : ∀ f ∈ fs, Laid Z a0 C f.1 f.2.1 f.2.2 ∧ ∃ t, parseFieldDescriptor f.2.2 = some t) :
    ∀ f ∈ ((O, n, d) : Fd) :: fs, Laid Z a0 C f.1 f.2.1 f.2.2 ∧ ∃ t, parseFieldDescriptor f.2.2 = some t := fun f hf => by
  rcases List.mem_cons.mp hf with rfl | hf
  · exact ⟨h, t, ht⟩
  · exact r f hf
theorem LaidAll.nil {Z : State} {a0 : Array Value} {C : String} : ∀ f ∈ ([] : List Fd), Laid Z a0 C f.1 f.2.1 f.2.2 ∧ ∃ t, parseFieldDescriptor f.2.2 = some t := fun _ hf => nomatch hf
def Des (Z : State) (a0 : Array Value) (h : Heap) (a : Addr) (w : Bool) : SC → Prop
  | .inl (C, fs, vs) => Exa Z h a C ∧ vs.length = fs.length ∧ (∀ (i : Nat) (f : Fd) (v : Value), fs[i]? = some f → vs[i]? = some v → Fld Z h a f.1 f.2.1 f.2.2 v) ∧ (w = true → LaidAll Z a0 C fs ∧ Unt h a)
  | .inr (t, vs) => AV Z h a w t vs
def Sep (As : List Ent) : Prop := (As.map fun e => (e.1, e.2.1)).Pairwise fun p q => p.2 = true ∨ q.2 = true → p.1 ≠ q.1
def Inv (G : Gx) (As : List Ent) (h : Heap) : Prop :=
  Ext G.Z.heap h ∧ Sep As ∧ ∀ e ∈ As, (e.2.1 = true → G.Z.heap.size ≤ e.1) ∧ Des G.Z G.a0 h e.1 e.2.1 e.2.2
def LI (Z : State) (vm : Vm) (Li : List LitE) : Prop := IB Z vm (Li.map fun q => q.2.2.1) ∧ (∀ q ∈ Li, RoadKit.Lit (Z.setVm vm) q.1 q.2.1 q.2.2.2) ∧
  ∀ q ∈ Li, ∀ (units : Array UInt16) (a : Addr), utf16ToString? units = some q.2.2.1 → vm.interned.find? (fun p => p.1 == units) = some (units, a) → (∃ r ∈ Li, r.2.2.1 = q.2.2.1 ∧ r.2.2.2 = a) ∨ Z.vm.interned.find? (fun p => p.1 == units) = some (units, a)

section Heaps
variable {Z : State} {a0 : Array Value} {h h' : Heap} {a b : Addr} {w : Bool} {sc sc' : SC} {As As' : List Ent} {G : Gx} {C O n d : String} {v : Value} {fs : List Fd} {vs vs' : List Value} {t : FieldType}
theorem Fld.cell' (e : ∀ c, h[a]? = some c → h'[a]? = some c) (F : Fld Z h a C n d v) : Fld Z h' a C n d v := by
  obtain ⟨cell, cf, k, i, f, h1, r⟩ := F; exact ⟨cell, cf, k, i, f, e _ h1, r⟩
theorem Exa.cell' (e : ∀ c, h[a]? = some c → h'[a]? = some c) (F : Exa Z h a C) : Exa Z h' a C := by
  obtain ⟨cell, k, h1, r⟩ := F; exact ⟨cell, k, e _ h1, r⟩
theorem Des.cell (e : ∀ c, h[a]? = some c → h'[a]? = some c) (D : Des Z a0 h a w sc) : Des Z a0 h' a w sc := by
  rcases sc with ⟨C, fs, vs⟩ | ⟨t, vs⟩
  · obtain ⟨h1, h2, h3, h4⟩ := D
    exact ⟨Exa.cell' e h1, h2, fun i f v q r => Fld.cell' e (h3 i f v q r), fun hw => ⟨(h4 hw).1, by obtain ⟨c, u1, u2⟩ := (h4 hw).2; exact ⟨c, e _ u1, u2⟩⟩⟩
  · obtain ⟨c, A, r⟩ := D
    exact ⟨c, ⟨e _ A.1, A.2⟩, r⟩
theorem Des.lt (D : Des Z a0 h a w sc) : a < h.size := by
  rcases sc with ⟨C, fs, vs⟩ | ⟨t, vs⟩
  · exact D.1.lt
  · obtain ⟨c, A, -⟩ := D; exact A.lt
theorem Inv.ext (I : Inv G As h) (E : Ext h h') : Inv G As h' :=
  ⟨⟨Nat.le_trans I.1.1 E.1, fun x c q => E.2 x c (I.1.2 x c q)⟩, I.2.1, fun e he => ⟨(I.2.2 e he).1, (I.2.2 e he).2.cell fun c q => E.2 _ c q⟩⟩
theorem Inv.ge (I : Inv G As h) : G.Z.heap.size ≤ h.size := I.1.1
theorem Inv.push (I : Inv G As h) (E : Ext h h') (D : Des G.Z G.a0 h' h.size w sc) : Inv G ((h.size, w, sc) :: As) h' := by
  have J := I.ext E
  refine ⟨J.1, ?_, fun e he => ?_⟩
  · refine List.pairwise_cons.mpr ⟨fun p hp => ?_, I.2.1⟩
    obtain ⟨e, he, rfl⟩ := List.mem_map.mp hp
    exact fun _ => (Nat.ne_of_lt ((I.2.2 e he).2.lt)).symm
  · rcases List.mem_cons.mp he with rfl | he
    · exact ⟨fun _ => I.ge, D⟩
    · exact J.2.2 e he
/-- one cell of the list gets another description -/
def Upd (As : List Ent) (a : Addr) (sc sc' : SC) (As' : List Ent) : Prop := ∃ pre post, As = pre ++ (a, true, sc) :: post ∧ As' = pre ++ (a, true, sc') :: post
theorem Upd.head : Upd ((a, true, sc) :: As) a sc sc' ((a, true, sc') :: As) := ⟨[], As, rfl, rfl⟩
theorem Upd.tail {e : Ent} (u : Upd As a sc sc' As') : Upd (e :: As) a sc sc' (e :: As') := by
  obtain ⟨pre, post, rfl, rfl⟩ := u; exact ⟨e :: pre, post, rfl, rfl⟩
theorem Upd.mem (u : Upd As a sc sc' As') : (a, true, sc) ∈ As := by obtain ⟨pre, post, rfl, rfl⟩ := u; simp
theorem Inv.upd (I : Inv G As h) (u : Upd As a sc sc' As') (k : ∀ b, b ≠ a → ∀ c : Cell, h[b]? = some c → h'[b]? = some c) (hs : h.size ≤ h'.size) (D : Des G.Z G.a0 h' a true sc') : Inv G As' h' := by
  have hm := I.2.2 _ u.mem
  obtain ⟨pre, post, rfl, rfl⟩ := u
  have ha : G.Z.heap.size ≤ a := hm.1 rfl
  have sp := I.2.1
  refine ⟨⟨Nat.le_trans I.1.1 hs, fun x c q => k x (fun e => ?_) c (I.1.2 x c q)⟩, ?_, fun e he => ?_⟩
  · subst e; exact absurd (Array.getElem?_eq_some_iff.mp q).1 (Nat.not_lt.mpr ha)
  · simpa [Sep] using sp
  · simp only [Sep, List.map_append, List.map_cons, List.pairwise_append, List.pairwise_cons] at sp
    rcases List.mem_append.mp he with he | he
    · have q := I.2.2 e (List.mem_append_left _ he)
      refine ⟨q.1, q.2.cell (k _ ?_)⟩
      exact sp.2.2 _ (List.mem_map_of_mem he) (a, true) (List.mem_cons_self ..) (by simp)
    · rcases List.mem_cons.mp he with rfl | he
      · exact ⟨fun _ => ha, D⟩
      · have q := I.2.2 e (List.mem_append_right _ (List.mem_cons_of_mem _ he))
        refine ⟨q.1, q.2.cell (k _ ?_)⟩
        exact (sp.2.1.1 _ (List.mem_map_of_mem he) (by simp)).symm
/-- two places of the list, one of them the walk's own, are two cells -/
theorem Inv.ne (I : Inv G As h) {i j : Nat} {w' : Bool} (hi : As[i]? = some (a, w, sc)) (hj : As[j]? = some (b, w', sc')) (ij : i < j) (hw : w = true ∨ w' = true) : a ≠ b := by
  have sp := I.2.1
  rw [Sep, List.pairwise_iff_getElem] at sp
  obtain ⟨i1, i2⟩ := List.getElem?_eq_some_iff.mp hi
  obtain ⟨j1, j2⟩ := List.getElem?_eq_some_iff.mp hj
  have q := sp i j (by simpa using i1) (by simpa using j1) ij
  simp only [List.getElem_map, i2, j2] at q
  exact q hw
theorem Inv.perm (I : Inv G As h) (q : As.Perm As') : Inv G As' h := by
  refine ⟨I.1, ?_, fun e he => I.2.2 e (q.mem_iff.mpr he)⟩
  exact (q.map _).pairwise I.2.1 (fun {x y} r s => (r (s.symm)).symm)
theorem Inv.drop (I : Inv G As h) (q : As'.Sublist As) : Inv G As' h :=
  ⟨I.1, I.2.1.sublist (q.map _), fun e he => I.2.2 e (q.subset he)⟩
/-! fields by their names -/
def FAt (fs : List Fd) (vs : List Value) (O n d : String) (v : Value) : Prop := ∃ i : Nat, fs[i]? = some (O, n, d) ∧ vs[i]? = some v
theorem FAt.head : FAt ((O, n, d) :: fs) (v :: vs) O n d v := ⟨0, rfl, rfl⟩
theorem FAt.tail {f : Fd} {u : Value} (q : FAt fs vs O n d v) : FAt (f :: fs) (u :: vs) O n d v := by obtain ⟨i, h1, h2⟩ := q; exact ⟨i + 1, h1, h2⟩
def FUp (fs : List Fd) (vs : List Value) (O n d : String) (v : Value) (vs' : List Value) : Prop := ∃ i : Nat, fs[i]? = some (O, n, d) ∧ i < vs.length ∧ vs' = vs.set i v
theorem FUp.head {u : Value} : FUp ((O, n, d) :: fs) (u :: vs) O n d v (v :: vs) := ⟨0, rfl, Nat.succ_pos _, rfl⟩
theorem FUp.tail {f : Fd} {u : Value} (q : FUp fs vs O n d v vs') : FUp (f :: fs) (u :: vs) O n d v (u :: vs') := by
  obtain ⟨i, h1, h2, rfl⟩ := q; exact ⟨i + 1, h1, Nat.succ_lt_succ h2, rfl⟩
theorem Inv.fld (I : Inv G As h) (hm : (a, w, obj C fs vs) ∈ As) (q : FAt fs vs O n d v) : Fld G.Z h a O n d v := by
  obtain ⟨i, h1, h2⟩ := q; exact (I.2.2 _ hm).2.2.2.1 i _ v h1 h2
theorem Inv.exa (I : Inv G As h) (hm : (a, w, obj C fs vs) ∈ As) : Exa G.Z h a C := (I.2.2 _ hm).2.1
theorem Inv.av (I : Inv G As h) (hm : (a, w, arr t vs) ∈ As) : AV G.Z h a w t vs := (I.2.2 _ hm).2
theorem Inv.old (I : Inv G As h) : Ext G.Z.heap h := I.1
/-- a field is written -/
theorem Inv.wrF (I : Inv G As h) (u : Upd As a (obj C fs vs) (obj C fs vs') As') (q : FUp fs vs O n d v vs') (W : Wr h h' a (RoadKit.slotOf G.Z O n d) v) : Inv G As' h' := by
  have hm := (I.2.2 _ u.mem).2
  obtain ⟨i, h1, h2, rfl⟩ := q
  obtain ⟨e1, e2, e3, e4⟩ := hm
  have L := (e4 rfl).1
  refine I.upd u (fun b hb c hc => ?_) (Nat.le_of_eq W.size.symm) ⟨e1.wr W, by rw [List.length_set]; exact e2, fun j f x hf hx => ?_, fun _ => ⟨L, (e4 rfl).2.wr W⟩⟩
  · obtain ⟨c', q1, -, -, -, q5, -⟩ := wr_at W hc
    rw [q1, q5 hb]
  · by_cases ij : i = j
    · subst ij
      rw [h1] at hf; cases hf
      rw [List.getElem?_set_self h2] at hx; cases hx
      exact (e3 i _ _ h1 (List.getElem?_eq_getElem h2)).same W
    · rw [List.getElem?_set_ne ij] at hx
      refine (e3 j f x hf hx).other W (Or.inr ?_)
      obtain ⟨L1, t1, p1⟩ := L.2 f (List.mem_of_getElem? hf)
      obtain ⟨L2, t2, p2⟩ := L.2 _ (List.mem_of_getElem? h1)
      refine slot_ne L1 L2 (fun e => ?_) p1 p2
      have nd := L.1
      rw [List.nodup_iff_pairwise_ne, List.pairwise_iff_getElem] at nd
      obtain ⟨i1, i2⟩ := List.getElem?_eq_some_iff.mp h1
      obtain ⟨j1, j2⟩ := List.getElem?_eq_some_iff.mp hf
      rcases Nat.lt_or_gt_of_ne ij with lt | lt
      · have := nd i j (by simpa using i1) (by simpa using j1) lt
        simp only [List.getElem_map, i2, j2] at this
        exact this e.symm
      · have := nd j i (by simpa using j1) (by simpa using i1) lt
        simp only [List.getElem_map, i2, j2] at this
        exact this e
/-- a place of an array is written -/
theorem Inv.wrA (I : Inv G As h) {k : Nat} {c : Cell} (A : Arr G.Z h a c t) (u : Upd As a (arr t vs) (arr t (vs.set k v)) As') (hv : fits t v = true) (W : Wr h h' a k v) : Inv G As' h' := by
  have hm := (I.2.2 _ u.mem).2
  obtain ⟨c', A', e1, e2, e3, e4⟩ := hm
  cases A.1.symm.trans A'.1
  refine I.upd u (fun b hb c hc => ?_) (Nat.le_of_eq W.size.symm) ⟨c.setSlot k v, Arr.same W A, ?_, by rw [List.length_set]; exact e2, fun x hx => ?_, e4⟩
  · obtain ⟨c', q1, -, -, -, q5, -⟩ := wr_at W hc
    rw [q1, q5 hb]
  · rw [← e1]; simp [Cell.setSlot]
  · rcases List.mem_or_eq_of_mem_set hx with hx | rfl
    · exact e3 x hx
    · exact hv
theorem LI.warm {s : State} {vm0 vm1 : Vm} {Li : List LitE} (L : LI Z vm0 Li) (hW : (s.setVm vm0).WarmedH vm1) : LI Z vm1 Li := by
  obtain ⟨⟨more, e, hm⟩, r, t⟩ := L
  have hi : vm1.interned = vm0.interned := hW.interned_eq
  exact ⟨⟨more, hi.trans e, hm⟩, fun q hq => Lit.stays (s := s) (r q hq) hW.wide, fun q hq units a hu hf => t q hq units a hu (by rw [← hi]; exact hf)⟩
end Heaps
end Jvm.Own
namespace Jvm.Own
open Sem ClassFile Op Lib Jvm.Stand Jvm.Free Jvm.LawKit Jvm.RoadKit
abbrev Qx : Type := Option Value → List Ent → List LitE → Prop
/-- the run from t ends: the method returns v, and Q says what lies there then -/
def Fini (G : Gx) (K : Kx) (R : Room) (Q : Qx) (t : State) : Prop :=
  ∃ (U : State) (v : Option Value), Steps K.p.tables K.e K.below t U ∧ U.status = .running ∧ Ended U K.below (.returned v) ∧
    ∃ (L : List Loc) (As : List Ent) (Li : List LitE), Q v As Li ∧ Inv G As U.heap ∧ LI G.Z U.vm Li ∧ Fr G.Z.heap.size L ∧ ReturnedEndW K.s (.returned v) U L R.cells R.slots ∧ (G.nw = true → K.s.WarmedH U.vm)
def Ok (G : Gx) (K : Kx) (y : MethodName) (code : ByteArray) (mL : Nat) (ret : Option FieldType) : Prop :=
  K.p.tables.exec = Jvm.exec ∧ K.c.code = code ∧ K.c.maxLocals = mL ∧ G.Z.Warmed39 K.s.vm ∧ K.s.vm.findClass y.cls = some K.m.cls ∧ K.meth.name = y.name ∧ K.meth.sig.returnType = ret ∧ K.meth.locks = false ∧ K.s.methodNamed? y = some K.m ∧ FK G K.below ∧ Ext G.Z.heap K.s.heap
/-- the body of y stands at pc with these locals and this stack over this symbolic heap: it runs to its end -/
def W (G : Gx) (K : Kx) (y : MethodName) (code : ByteArray) (ret : Option FieldType) (R : Room) (Q : Qx) (As : List Ent) (Li : List LitE) (cells slots pc : Nat) (Ls : List Slot) (st : List Value) : Prop :=
  ∀ (T : State) (vm0 : Vm) (k0 : Nat) (locs : List Loc), Ok G K y code Ls.length ret → Stand K.p G.l K.e R (K.s.setVm vm0) K.m K.args K.below K.meth K.c T locs cells slots →
    K.s.Since vm0 k0 → k0 ≤ T.heap.size → (G.nw = true → K.s.WarmedH vm0) → Inv G As T.heap → LI G.Z vm0 Li → Fr G.Z.heap.size locs → Fini G K R Q (T.setTop (mkF K.m pc Ls.toArray st))
section Laws
variable {G : Gx} {K : Kx} {y : MethodName} {code : ByteArray} {ret : Option FieldType} {R : Room} {Q : Qx} {As As' : List Ent} {Li Li' : List LitE} {cells slots pc pc' : Nat} {Ls Ls' : List Slot} {st st' : List Value}
theorem W.via (hlen : Ls'.length = Ls.length) (n : W G K y code ret R Q As Li cells slots pc' Ls' st')
    (stp : ∀ T : State, At T K.m K.c K.below → K.p.tables.exec = Jvm.exec → K.c.code = code → ∀ target, Steps K.p.tables K.e K.below (T.setTop (mkF K.m pc' Ls'.toArray st')) target → Steps K.p.tables K.e K.below (T.setTop (mkF K.m pc Ls.toArray st)) target) :
    W G K y code ret R Q As Li cells slots pc Ls st := by
  intro T vm0 k0 locs ok X hS hk hN hI hL hF
  obtain ⟨U, v, h1, h2⟩ := n T vm0 k0 locs (hlen ▸ ok) X hS hk hN hI hL hF
  exact ⟨U, v, stp T X.here ok.1 ok.2.1 U h1, h2⟩
theorem W.mono {cells' slots' : Nat} (n : W G K y code ret R Q As Li cells' slots' pc Ls st) (hc : cells ≤ cells') (hs : slots ≤ slots') : W G K y code ret R Q As Li cells slots pc Ls st :=
  fun T vm0 k0 locs ok X hS hk hN hI hL hF => n T vm0 k0 locs ok (X.more hc hs) hS hk hN hI hL hF
theorem W.perm (n : W G K y code ret R Q As' Li cells slots pc Ls st) (q : As.Perm As') : W G K y code ret R Q As Li cells slots pc Ls st :=
  fun T vm0 k0 locs ok X hS hk hN hI hL hF => n T vm0 k0 locs ok X hS hk hN (hI.perm q) hL hF
theorem W.drop (n : W G K y code ret R Q As' Li cells slots pc Ls st) (q : As'.Sublist As) : W G K y code ret R Q As Li cells slots pc Ls st :=
  fun T vm0 k0 locs ok X hS hk hN hI hL hF => n T vm0 k0 locs ok X hS hk hN (hI.drop q) hL hF
theorem W.know (n : ∀ h, Inv G As h → W G K y code ret R Q As Li cells slots pc Ls st) : W G K y code ret R Q As Li cells slots pc Ls st :=
  fun T vm0 k0 locs ok X hS hk hN hI hL hF => n T.heap hI T vm0 k0 locs ok X hS hk hN hI hL hF
theorem W.conseq {Q' : Qx} (n : W G K y code ret R Q' As Li cells slots pc Ls st) (q : ∀ v As Li, Q' v As Li → Q v As Li) : W G K y code ret R Q As Li cells slots pc Ls st := by
  intro T vm0 k0 locs ok X hS hk hN hI hL hF
  obtain ⟨U, v, h1, h2, h3, L, A, I, h4, h5⟩ := n T vm0 k0 locs ok X hS hk hN hI hL hF
  exact ⟨U, v, h1, h2, h3, L, A, I, q _ _ _ h4, h5⟩

theorem W.iloadN {k : Fin 4} {v : Int32} (hd : decode code pc = .ok (.iload_n k, 1)) (hl : Ls[k.val]? = some (.val (.int v))) (n : W G K y code ret R Q As Li cells slots (pc + 1) Ls (.int v :: st)) : W G K y code ret R Q As Li cells slots pc Ls st :=
  W.via rfl n fun T h hx hby tg hr => XS.iloadN h hx rfl (hb hby hd) (by simpa using hl) hr
theorem W.iload {k : Nat} {v : Int32} (hd : decode code pc = .ok (.iload k, 2)) (hl : Ls[k]? = some (.val (.int v))) (n : W G K y code ret R Q As Li cells slots (pc + 2) Ls (.int v :: st)) : W G K y code ret R Q As Li cells slots pc Ls st :=
  W.via rfl n fun T h hx hby tg hr => XS.iload h hx rfl (hb hby hd) (by simpa using hl) hr
theorem W.lloadN {k : Fin 4} {v : Int64} (hd : decode code pc = .ok (.lload_n k, 1)) (hl : Ls[k.val]? = some (.val (.long v))) (n : W G K y code ret R Q As Li cells slots (pc + 1) Ls (.long v :: st)) : W G K y code ret R Q As Li cells slots pc Ls st :=
  W.via rfl n fun T h hx hby tg hr => XS.lloadN h hx rfl (hb hby hd) (by simpa using hl) hr
theorem W.lload {k : Nat} {v : Int64} (hd : decode code pc = .ok (.lload k, 2)) (hl : Ls[k]? = some (.val (.long v))) (n : W G K y code ret R Q As Li cells slots (pc + 2) Ls (.long v :: st)) : W G K y code ret R Q As Li cells slots pc Ls st :=
  W.via rfl n fun T h hx hby tg hr => XS.lload h hx rfl (hb hby hd) (by simpa using hl) hr
theorem W.aloadN {k : Fin 4} {v : Value} (hd : decode code pc = .ok (.aload_n k, 1)) (hl : Ls[k.val]? = some (.val v)) (hv : v.isRef = true) (n : W G K y code ret R Q As Li cells slots (pc + 1) Ls (v :: st)) : W G K y code ret R Q As Li cells slots pc Ls st :=
  W.via rfl n fun T h hx hby tg hr => XS.aloadN h hx rfl (hb hby hd) (by simpa using hl) hv hr
theorem W.aload {k : Nat} {v : Value} (hd : decode code pc = .ok (.aload k, 2)) (hl : Ls[k]? = some (.val v)) (hv : v.isRef = true) (n : W G K y code ret R Q As Li cells slots (pc + 2) Ls (v :: st)) : W G K y code ret R Q As Li cells slots pc Ls st :=
  W.via rfl n fun T h hx hby tg hr => XS.aload h hx rfl (hb hby hd) (by simpa using hl) hv hr
theorem W.istoreN {k : Fin 4} {x : Int32} (hd : decode code pc = .ok (.istore_n k, 1)) (hl : storeLocals Ls.toArray k.val (.int x) = some Ls'.toArray) (hn : Ls'.length = Ls.length) (n : W G K y code ret R Q As Li cells slots (pc + 1) Ls' st) : W G K y code ret R Q As Li cells slots pc Ls (.int x :: st) :=
  W.via hn n fun T h hx hby tg hr => XS.istoreN h hx rfl (hb hby hd) rfl hl hr
theorem W.istore {k : Nat} {x : Int32} (hd : decode code pc = .ok (.istore k, 2)) (hl : storeLocals Ls.toArray k (.int x) = some Ls'.toArray) (hn : Ls'.length = Ls.length) (n : W G K y code ret R Q As Li cells slots (pc + 2) Ls' st) : W G K y code ret R Q As Li cells slots pc Ls (.int x :: st) :=
  W.via hn n fun T h hx hby tg hr => XS.istore h hx rfl (hb hby hd) rfl hl hr
theorem W.lstoreN {k : Fin 4} {x : Int64} (hd : decode code pc = .ok (.lstore_n k, 1)) (hl : storeLocals Ls.toArray k.val (.long x) = some Ls'.toArray) (hn : Ls'.length = Ls.length) (n : W G K y code ret R Q As Li cells slots (pc + 1) Ls' st) : W G K y code ret R Q As Li cells slots pc Ls (.long x :: st) :=
  W.via hn n fun T h hx hby tg hr => XS.lstoreN h hx rfl (hb hby hd) rfl hl hr
theorem W.lstore {k : Nat} {x : Int64} (hd : decode code pc = .ok (.lstore k, 2)) (hl : storeLocals Ls.toArray k (.long x) = some Ls'.toArray) (hn : Ls'.length = Ls.length) (n : W G K y code ret R Q As Li cells slots (pc + 2) Ls' st) : W G K y code ret R Q As Li cells slots pc Ls (.long x :: st) :=
  W.via hn n fun T h hx hby tg hr => XS.lstore h hx rfl (hb hby hd) rfl hl hr
theorem W.astoreN {k : Fin 4} {x : Value} (hd : decode code pc = .ok (.astore_n k, 1)) (hv : x.isRef = true) (hl : storeLocals Ls.toArray k.val x = some Ls'.toArray) (hn : Ls'.length = Ls.length) (n : W G K y code ret R Q As Li cells slots (pc + 1) Ls' st) : W G K y code ret R Q As Li cells slots pc Ls (x :: st) :=
  W.via hn n fun T h hx hby tg hr => XS.astoreN h hx rfl (hb hby hd) rfl hv hl hr
theorem W.astore {k : Nat} {x : Value} (hd : decode code pc = .ok (.astore k, 2)) (hv : x.isRef = true) (hl : storeLocals Ls.toArray k x = some Ls'.toArray) (hn : Ls'.length = Ls.length) (n : W G K y code ret R Q As Li cells slots (pc + 2) Ls' st) : W G K y code ret R Q As Li cells slots pc Ls (x :: st) :=
  W.via hn n fun T h hx hby tg hr => XS.astore h hx rfl (hb hby hd) rfl hv hl hr
theorem W.iinc {k : Nat} {cst : Int} {x z : Int32} (hd : decode code pc = .ok (.iinc k cst, 3)) (hk : Ls[k]? = some (.val (.int x))) (hz : Int32.ofInt cst = z) (hl : storeLocals Ls.toArray k (.int (x + z)) = some Ls'.toArray) (hn : Ls'.length = Ls.length) (n : W G K y code ret R Q As Li cells slots (pc + 3) Ls' st) : W G K y code ret R Q As Li cells slots pc Ls st :=
  W.via hn n fun T h hx hby tg hr => XS.iinc h hx rfl (hb hby hd) (by simpa using hk) (by rw [hz]; exact hl) hr
theorem W.iconst {i : Int} {z : Int32} (hd : decode code pc = .ok (.iconst i, 1)) (hz : Int32.ofInt i = z) (n : W G K y code ret R Q As Li cells slots (pc + 1) Ls (.int z :: st)) : W G K y code ret R Q As Li cells slots pc Ls st :=
  W.via rfl n fun T h hx hby tg hr => XS.iconst h hx rfl (hb hby hd) (by rw [hz]; exact hr)
theorem W.bipush {i : Int} {z : Int32} (hd : decode code pc = .ok (.bipush i, 2)) (hz : (Int8.ofInt i).toInt32 = z) (n : W G K y code ret R Q As Li cells slots (pc + 2) Ls (.int z :: st)) : W G K y code ret R Q As Li cells slots pc Ls st :=
  W.via rfl n fun T h hx hby tg hr => XS.bipush h hx rfl (hb hby hd) (by rw [hz]; exact hr)
theorem W.sipush {i : Int} {z : Int32} (hd : decode code pc = .ok (.sipush i, 3)) (hz : (Int16.ofInt i).toInt32 = z) (n : W G K y code ret R Q As Li cells slots (pc + 3) Ls (.int z :: st)) : W G K y code ret R Q As Li cells slots pc Ls st :=
  W.via rfl n fun T h hx hby tg hr => XS.sipush h hx rfl (hb hby hd) (by rw [hz]; exact hr)
theorem W.lconst {k : Fin 2} {z : Int64} (hd : decode code pc = .ok (.lconst k, 1)) (hz : Int64.ofNat k = z) (n : W G K y code ret R Q As Li cells slots (pc + 1) Ls (.long z :: st)) : W G K y code ret R Q As Li cells slots pc Ls st :=
  W.via rfl n fun T h hx hby tg hr => XS.lconst h hx rfl (hb hby hd) (by rw [hz]; exact hr)
theorem W.aconstNull  (hd : decode code pc = .ok (.aconst_null, 1))  (n : W G K y code ret R Q As Li cells slots (pc + 1) Ls (.null :: st)) : W G K y code ret R Q As Li cells slots pc Ls st :=
  W.via rfl n fun T h hx hby tg hr => XS.aconstNull h hx rfl (hb hby hd) hr
theorem W.iadd {x u z : Int32} (hd : decode code pc = .ok (.iadd, 1)) (hz : x + u = z) (n : W G K y code ret R Q As Li cells slots (pc + 1) Ls (.int z :: st)) : W G K y code ret R Q As Li cells slots pc Ls (.int u :: .int x :: st) :=
  W.via rfl n fun T h hx hby tg hr => XS.iadd h hx rfl (hb hby hd) rfl (by subst hz; exact hr)
theorem W.isub {x u z : Int32} (hd : decode code pc = .ok (.isub, 1)) (hz : x - u = z) (n : W G K y code ret R Q As Li cells slots (pc + 1) Ls (.int z :: st)) : W G K y code ret R Q As Li cells slots pc Ls (.int u :: .int x :: st) :=
  W.via rfl n fun T h hx hby tg hr => XS.isub h hx rfl (hb hby hd) rfl (by subst hz; exact hr)
theorem W.imul {x u z : Int32} (hd : decode code pc = .ok (.imul, 1)) (hz : x * u = z) (n : W G K y code ret R Q As Li cells slots (pc + 1) Ls (.int z :: st)) : W G K y code ret R Q As Li cells slots pc Ls (.int u :: .int x :: st) :=
  W.via rfl n fun T h hx hby tg hr => XS.imul h hx rfl (hb hby hd) rfl (by subst hz; exact hr)
theorem W.iand {x u z : Int32} (hd : decode code pc = .ok (.iand, 1)) (hz : x &&& u = z) (n : W G K y code ret R Q As Li cells slots (pc + 1) Ls (.int z :: st)) : W G K y code ret R Q As Li cells slots pc Ls (.int u :: .int x :: st) :=
  W.via rfl n fun T h hx hby tg hr => XS.iand h hx rfl (hb hby hd) rfl (by subst hz; exact hr)
theorem W.ior {x u z : Int32} (hd : decode code pc = .ok (.ior, 1)) (hz : x ||| u = z) (n : W G K y code ret R Q As Li cells slots (pc + 1) Ls (.int z :: st)) : W G K y code ret R Q As Li cells slots pc Ls (.int u :: .int x :: st) :=
  W.via rfl n fun T h hx hby tg hr => XS.ior h hx rfl (hb hby hd) rfl (by subst hz; exact hr)
theorem W.ixor {x u z : Int32} (hd : decode code pc = .ok (.ixor, 1)) (hz : x ^^^ u = z) (n : W G K y code ret R Q As Li cells slots (pc + 1) Ls (.int z :: st)) : W G K y code ret R Q As Li cells slots pc Ls (.int u :: .int x :: st) :=
  W.via rfl n fun T h hx hby tg hr => XS.ixor h hx rfl (hb hby hd) rfl (by subst hz; exact hr)
theorem W.ishl {x u z : Int32} (hd : decode code pc = .ok (.ishl, 1)) (hz : x <<< (u &&& 31) = z) (n : W G K y code ret R Q As Li cells slots (pc + 1) Ls (.int z :: st)) : W G K y code ret R Q As Li cells slots pc Ls (.int u :: .int x :: st) :=
  W.via rfl n fun T h hx hby tg hr => XS.ishl h hx rfl (hb hby hd) rfl (by subst hz; exact hr)
theorem W.ishr {x u z : Int32} (hd : decode code pc = .ok (.ishr, 1)) (hz : x >>> (u &&& 31) = z) (n : W G K y code ret R Q As Li cells slots (pc + 1) Ls (.int z :: st)) : W G K y code ret R Q As Li cells slots pc Ls (.int u :: .int x :: st) :=
  W.via rfl n fun T h hx hby tg hr => XS.ishr h hx rfl (hb hby hd) rfl (by subst hz; exact hr)
theorem W.iushr {x u z : Int32} (hd : decode code pc = .ok (.iushr, 1)) (hz : (x.toUInt32 >>> (u &&& 31).toUInt32).toInt32 = z) (n : W G K y code ret R Q As Li cells slots (pc + 1) Ls (.int z :: st)) : W G K y code ret R Q As Li cells slots pc Ls (.int u :: .int x :: st) :=
  W.via rfl n fun T h hx hby tg hr => XS.iushr h hx rfl (hb hby hd) rfl (by subst hz; exact hr)
theorem W.ladd {x u z : Int64} (hd : decode code pc = .ok (.ladd, 1)) (hz : x + u = z) (n : W G K y code ret R Q As Li cells slots (pc + 1) Ls (.long z :: st)) : W G K y code ret R Q As Li cells slots pc Ls (.long u :: .long x :: st) :=
  W.via rfl n fun T h hx hby tg hr => XS.ladd h hx rfl (hb hby hd) rfl (by subst hz; exact hr)
theorem W.lsub {x u z : Int64} (hd : decode code pc = .ok (.lsub, 1)) (hz : x - u = z) (n : W G K y code ret R Q As Li cells slots (pc + 1) Ls (.long z :: st)) : W G K y code ret R Q As Li cells slots pc Ls (.long u :: .long x :: st) :=
  W.via rfl n fun T h hx hby tg hr => XS.lsub h hx rfl (hb hby hd) rfl (by subst hz; exact hr)
theorem W.lmul {x u z : Int64} (hd : decode code pc = .ok (.lmul, 1)) (hz : x * u = z) (n : W G K y code ret R Q As Li cells slots (pc + 1) Ls (.long z :: st)) : W G K y code ret R Q As Li cells slots pc Ls (.long u :: .long x :: st) :=
  W.via rfl n fun T h hx hby tg hr => XS.lmul h hx rfl (hb hby hd) rfl (by subst hz; exact hr)
theorem W.land {x u z : Int64} (hd : decode code pc = .ok (.land, 1)) (hz : x &&& u = z) (n : W G K y code ret R Q As Li cells slots (pc + 1) Ls (.long z :: st)) : W G K y code ret R Q As Li cells slots pc Ls (.long u :: .long x :: st) :=
  W.via rfl n fun T h hx hby tg hr => XS.land h hx rfl (hb hby hd) rfl (by subst hz; exact hr)
theorem W.lor {x u z : Int64} (hd : decode code pc = .ok (.lor, 1)) (hz : x ||| u = z) (n : W G K y code ret R Q As Li cells slots (pc + 1) Ls (.long z :: st)) : W G K y code ret R Q As Li cells slots pc Ls (.long u :: .long x :: st) :=
  W.via rfl n fun T h hx hby tg hr => XS.lor h hx rfl (hb hby hd) rfl (by subst hz; exact hr)
theorem W.lxor {x u z : Int64} (hd : decode code pc = .ok (.lxor, 1)) (hz : x ^^^ u = z) (n : W G K y code ret R Q As Li cells slots (pc + 1) Ls (.long z :: st)) : W G K y code ret R Q As Li cells slots pc Ls (.long u :: .long x :: st) :=
  W.via rfl n fun T h hx hby tg hr => XS.lxor h hx rfl (hb hby hd) rfl (by subst hz; exact hr)
theorem W.idiv {x u z : Int32} (hd : decode code pc = .ok (.idiv, 1)) (hy : u ≠ 0) (hz : x / u = z) (n : W G K y code ret R Q As Li cells slots (pc + 1) Ls (.int z :: st)) : W G K y code ret R Q As Li cells slots pc Ls (.int u :: .int x :: st) :=
  W.via rfl n fun T h hx hby tg hr => XS.idiv h hx rfl (hb hby hd) rfl hy (by subst hz; exact hr)
theorem W.irem {x u z : Int32} (hd : decode code pc = .ok (.irem, 1)) (hy : u ≠ 0) (hz : x - x / u * u = z) (n : W G K y code ret R Q As Li cells slots (pc + 1) Ls (.int z :: st)) : W G K y code ret R Q As Li cells slots pc Ls (.int u :: .int x :: st) :=
  W.via rfl n fun T h hx hby tg hr => XS.irem h hx rfl (hb hby hd) rfl hy (by subst hz; exact hr)
theorem W.ldiv {x u z : Int64} (hd : decode code pc = .ok (.ldiv, 1)) (hy : u ≠ 0) (hz : x / u = z) (n : W G K y code ret R Q As Li cells slots (pc + 1) Ls (.long z :: st)) : W G K y code ret R Q As Li cells slots pc Ls (.long u :: .long x :: st) :=
  W.via rfl n fun T h hx hby tg hr => XS.ldiv h hx rfl (hb hby hd) rfl hy (by subst hz; exact hr)
theorem W.lrem {x u z : Int64} (hd : decode code pc = .ok (.lrem, 1)) (hy : u ≠ 0) (hz : x - x / u * u = z) (n : W G K y code ret R Q As Li cells slots (pc + 1) Ls (.long z :: st)) : W G K y code ret R Q As Li cells slots pc Ls (.long u :: .long x :: st) :=
  W.via rfl n fun T h hx hby tg hr => XS.lrem h hx rfl (hb hby hd) rfl hy (by subst hz; exact hr)
theorem W.irem' {x u : Int32} (hd : decode code pc = .ok (.irem, 1)) (hy : u ≠ 0) (n : W G K y code ret R Q As Li cells slots (pc + 1) Ls (.int (x % u) :: st)) : W G K y code ret R Q As Li cells slots pc Ls (.int u :: .int x :: st) :=
  W.via rfl n fun T h hx hby tg hr => XS.irem h hx rfl (hb hby hd) rfl hy (by rw [irem_eq_mod]; exact hr)
theorem W.ineg {x : Int32} {z : Int32} (hd : decode code pc = .ok (.ineg, 1)) (hz : -x = z) (n : W G K y code ret R Q As Li cells slots (pc + 1) Ls (.int z :: st)) : W G K y code ret R Q As Li cells slots pc Ls (.int x :: st) :=
  W.via rfl n fun T h hx hby tg hr => XS.ineg h hx rfl (hb hby hd) rfl (by subst hz; exact hr)
theorem W.lneg {x : Int64} {z : Int64} (hd : decode code pc = .ok (.lneg, 1)) (hz : -x = z) (n : W G K y code ret R Q As Li cells slots (pc + 1) Ls (.long z :: st)) : W G K y code ret R Q As Li cells slots pc Ls (.long x :: st) :=
  W.via rfl n fun T h hx hby tg hr => XS.lneg h hx rfl (hb hby hd) rfl (by subst hz; exact hr)
theorem W.i2l {x : Int32} {z : Int64} (hd : decode code pc = .ok (.i2l, 1)) (hz : x.toInt64 = z) (n : W G K y code ret R Q As Li cells slots (pc + 1) Ls (.long z :: st)) : W G K y code ret R Q As Li cells slots pc Ls (.int x :: st) :=
  W.via rfl n fun T h hx hby tg hr => XS.i2l h hx rfl (hb hby hd) rfl (by subst hz; exact hr)
theorem W.l2i {x : Int64} {z : Int32} (hd : decode code pc = .ok (.l2i, 1)) (hz : x.toInt32 = z) (n : W G K y code ret R Q As Li cells slots (pc + 1) Ls (.int z :: st)) : W G K y code ret R Q As Li cells slots pc Ls (.long x :: st) :=
  W.via rfl n fun T h hx hby tg hr => XS.l2i h hx rfl (hb hby hd) rfl (by subst hz; exact hr)
theorem W.i2b {x : Int32} {z : Int32} (hd : decode code pc = .ok (.i2b, 1)) (hz : x.toInt8.toInt32 = z) (n : W G K y code ret R Q As Li cells slots (pc + 1) Ls (.int z :: st)) : W G K y code ret R Q As Li cells slots pc Ls (.int x :: st) :=
  W.via rfl n fun T h hx hby tg hr => XS.i2b h hx rfl (hb hby hd) rfl (by subst hz; exact hr)
theorem W.i2c {x : Int32} {z : Int32} (hd : decode code pc = .ok (.i2c, 1)) (hz : x.toUInt32.toUInt16.toUInt32.toInt32 = z) (n : W G K y code ret R Q As Li cells slots (pc + 1) Ls (.int z :: st)) : W G K y code ret R Q As Li cells slots pc Ls (.int x :: st) :=
  W.via rfl n fun T h hx hby tg hr => XS.i2c h hx rfl (hb hby hd) rfl (by subst hz; exact hr)
theorem W.i2s {x : Int32} {z : Int32} (hd : decode code pc = .ok (.i2s, 1)) (hz : x.toInt16.toInt32 = z) (n : W G K y code ret R Q As Li cells slots (pc + 1) Ls (.int z :: st)) : W G K y code ret R Q As Li cells slots pc Ls (.int x :: st) :=
  W.via rfl n fun T h hx hby tg hr => XS.i2s h hx rfl (hb hby hd) rfl (by subst hz; exact hr)
theorem W.lcmp {x u : Int64} {z : Int32} (hd : decode code pc = .ok (.lcmp, 1)) (hz : lcmpW x u = z) (n : W G K y code ret R Q As Li cells slots (pc + 1) Ls (.int z :: st)) : W G K y code ret R Q As Li cells slots pc Ls (.long u :: .long x :: st) :=
  W.via rfl n fun T h hx hby tg hr => XS.lcmp h hx rfl (hb hby hd) rfl (by subst hz; exact hr)
theorem W.lshl {x z : Int64} {u : Int32} (hd : decode code pc = .ok (.lshl, 1)) (hz : x <<< (u &&& 0x3f).toInt64 = z) (n : W G K y code ret R Q As Li cells slots (pc + 1) Ls (.long z :: st)) : W G K y code ret R Q As Li cells slots pc Ls (.int u :: .long x :: st) :=
  W.via rfl n fun T h hx hby tg hr => XS.lshl h hx rfl (hb hby hd) rfl (by subst hz; exact hr)
theorem W.lshr {x z : Int64} {u : Int32} (hd : decode code pc = .ok (.lshr, 1)) (hz : x >>> (u &&& 0x3f).toInt64 = z) (n : W G K y code ret R Q As Li cells slots (pc + 1) Ls (.long z :: st)) : W G K y code ret R Q As Li cells slots pc Ls (.int u :: .long x :: st) :=
  W.via rfl n fun T h hx hby tg hr => XS.lshr h hx rfl (hb hby hd) rfl (by subst hz; exact hr)
theorem W.lushr {x z : Int64} {u : Int32} (hd : decode code pc = .ok (.lushr, 1)) (hz : (x.toUInt64 >>> (u &&& 0x3f).toInt64.toUInt64).toInt64 = z) (n : W G K y code ret R Q As Li cells slots (pc + 1) Ls (.long z :: st)) : W G K y code ret R Q As Li cells slots pc Ls (.int u :: .long x :: st) :=
  W.via rfl n fun T h hx hby tg hr => XS.lushr h hx rfl (hb hby hd) rfl (by subst hz; exact hr)
theorem W.dup {x : Value} (hd : decode code pc = .ok (.dup, 1)) (hc : x.category = 1) (n : W G K y code ret R Q As Li cells slots (pc + 1) Ls (x :: x :: st)) : W G K y code ret R Q As Li cells slots pc Ls (x :: st) :=
  W.via rfl n fun T h hx hby tg hr => XS.dup h hx rfl (hb hby hd) rfl hc hr
theorem W.pop {x : Value} (hd : decode code pc = .ok (.pop, 1)) (hc : x.category = 1) (n : W G K y code ret R Q As Li cells slots (pc + 1) Ls st) : W G K y code ret R Q As Li cells slots pc Ls (x :: st) :=
  W.via rfl n fun T h hx hby tg hr => XS.pop h hx rfl (hb hby hd) rfl hc hr
theorem W.dupX1 {x z : Value} (hd : decode code pc = .ok (.dup_x1, 1)) (hc : x.category = 1) (hc' : z.category = 1) (n : W G K y code ret R Q As Li cells slots (pc + 1) Ls (x :: z :: x :: st)) : W G K y code ret R Q As Li cells slots pc Ls (x :: z :: st) :=
  W.via rfl n fun T h hx hby tg hr => XS.dupX1 h hx rfl (hb hby hd) rfl hc hc' hr
theorem W.dup2 {x z : Value} (hd : decode code pc = .ok (.dup2, 1)) (hc : x.category = 1) (hc' : z.category = 1) (n : W G K y code ret R Q As Li cells slots (pc + 1) Ls (x :: z :: x :: z :: st)) : W G K y code ret R Q As Li cells slots pc Ls (x :: z :: st) :=
  W.via rfl n fun T h hx hby tg hr => Jvm.Free.XT.dup2 h hx rfl (hb hby hd) rfl hc hc' hr
theorem W.goto {o : Int} (pc' : Nat) (hd : decode code pc = .ok (.goto o, 3)) (ho : 0 ≤ (pc : Int) + o) (hp : ((pc : Int) + o).toNat = pc') (n : W G K y code ret R Q As Li cells slots pc' Ls st) : W G K y code ret R Q As Li cells slots pc Ls st :=
  W.via rfl n fun T h hx hby tg hr => XS.goto h hx rfl rfl (hb hby hd) ho hp hr
theorem W.if1 {cd : ClassFile.Cond} {o : Int} {x : Int32} (pc' : Nat) (hd : decode code pc = .ok (.ifCond cd o, 3)) (ho : 0 ≤ (pc : Int) + o) (hp : ((pc : Int) + o).toNat = pc') (hc : ifCond.holds cd x = true) (n : W G K y code ret R Q As Li cells slots pc' Ls st) : W G K y code ret R Q As Li cells slots pc Ls (.int x :: st) :=
  W.via rfl n fun T h hx hby tg hr => XS.ifYes h hx rfl rfl (hb hby hd) rfl hc ho hp hr
theorem W.if0 {cd : ClassFile.Cond} {o : Int} {x : Int32} (hd : decode code pc = .ok (.ifCond cd o, 3)) (hc : ifCond.holds cd x = false) (n : W G K y code ret R Q As Li cells slots (pc + 3) Ls st) : W G K y code ret R Q As Li cells slots pc Ls (.int x :: st) :=
  W.via rfl n fun T h hx hby tg hr => XS.ifNo h hx rfl (hb hby hd) rfl hc hr
theorem W.ic1 {cd : ClassFile.Cond} {o : Int} {x z : Int32} (pc' : Nat) (hd : decode code pc = .ok (.if_icmp cd o, 3)) (ho : 0 ≤ (pc : Int) + o) (hp : ((pc : Int) + o).toNat = pc') (hc : if_icmp.holds cd x z = true) (n : W G K y code ret R Q As Li cells slots pc' Ls st) : W G K y code ret R Q As Li cells slots pc Ls (.int z :: .int x :: st) :=
  W.via rfl n fun T h hx hby tg hr => XS.icmpYes h hx rfl rfl (hb hby hd) rfl hc ho hp hr
theorem W.ic0 {cd : ClassFile.Cond} {o : Int} {x z : Int32} (hd : decode code pc = .ok (.if_icmp cd o, 3)) (hc : if_icmp.holds cd x z = false) (n : W G K y code ret R Q As Li cells slots (pc + 3) Ls st) : W G K y code ret R Q As Li cells slots pc Ls (.int z :: .int x :: st) :=
  W.via rfl n fun T h hx hby tg hr => XS.icmpNo h hx rfl (hb hby hd) rfl hc hr
theorem W.nullY {o : Int} (pc' : Nat) (hd : decode code pc = .ok (.ifnull o, 3)) (ho : 0 ≤ (pc : Int) + o) (hp : ((pc : Int) + o).toNat = pc') (n : W G K y code ret R Q As Li cells slots pc' Ls st) : W G K y code ret R Q As Li cells slots pc Ls (.null :: st) :=
  W.via rfl n fun T h hx hby tg hr => XS.ifnullYes h hx rfl rfl (hb hby hd) rfl ho hp hr
theorem W.nullN {o : Int} {b : Addr} (hd : decode code pc = .ok (.ifnull o, 3)) (n : W G K y code ret R Q As Li cells slots (pc + 3) Ls st) : W G K y code ret R Q As Li cells slots pc Ls (.ref b :: st) :=
  W.via rfl n fun T h hx hby tg hr => XS.ifnullNo h hx rfl (hb hby hd) rfl hr
theorem W.nonnullY {o : Int} {b : Addr} (pc' : Nat) (hd : decode code pc = .ok (.ifnonnull o, 3)) (ho : 0 ≤ (pc : Int) + o) (hp : ((pc : Int) + o).toNat = pc') (n : W G K y code ret R Q As Li cells slots pc' Ls st) : W G K y code ret R Q As Li cells slots pc Ls (.ref b :: st) :=
  W.via rfl n fun T h hx hby tg hr => XS.ifnonnullYes h hx rfl rfl (hb hby hd) rfl ho hp hr
theorem W.nonnullN {o : Int} (hd : decode code pc = .ok (.ifnonnull o, 3)) (n : W G K y code ret R Q As Li cells slots (pc + 3) Ls st) : W G K y code ret R Q As Li cells slots pc Ls (.null :: st) :=
  W.via rfl n fun T h hx hby tg hr => XS.ifnonnullNo h hx rfl (hb hby hd) rfl hr
theorem W.ac1 {cd : ClassFile.ACond} {o : Int} {x z : Value} (pc' : Nat) (hd : decode code pc = .ok (.if_acmp cd o, 3)) (ho : 0 ≤ (pc : Int) + o) (hp : ((pc : Int) + o).toNat = pc') (h1 : x.isRef = true) (h2 : z.isRef = true) (hc : Jvm.Free.XT.acmp cd x z = true) (n : W G K y code ret R Q As Li cells slots pc' Ls st) : W G K y code ret R Q As Li cells slots pc Ls (z :: x :: st) :=
  W.via rfl n fun T h hx hby tg hr => Jvm.Free.XT.acmpYes h hx rfl rfl (hb hby hd) rfl h1 h2 hc ho hp hr
theorem W.ac0 {cd : ClassFile.ACond} {o : Int} {x z : Value} (hd : decode code pc = .ok (.if_acmp cd o, 3)) (h1 : x.isRef = true) (h2 : z.isRef = true) (hc : Jvm.Free.XT.acmp cd x z = false) (n : W G K y code ret R Q As Li cells slots (pc + 3) Ls st) : W G K y code ret R Q As Li cells slots pc Ls (z :: x :: st) :=
  W.via rfl n fun T h hx hby tg hr => Jvm.Free.XT.acmpNo h hx rfl (hb hby hd) rfl h1 h2 hc hr
theorem W.if_eq {o : Int} {x : Int32} (pc' : Nat) (hd : decode code pc = .ok (.ifCond .eq o, 3)) (ho : 0 ≤ (pc : Int) + o) (hp : ((pc : Int) + o).toNat = pc') (n1 : x = (0 : Int32) → W G K y code ret R Q As Li cells slots pc' Ls st) (n0 : ¬ x = (0 : Int32) → W G K y code ret R Q As Li cells slots (pc + 3) Ls st) : W G K y code ret R Q As Li cells slots pc Ls (.int x :: st) := by
  by_cases h : x = (0 : Int32)
  · exact W.if1 pc' hd ho hp ((Jvm.RoadKit.if0 _ _).trans (teq h).1) (n1 h)
  · exact W.if0 hd ((Jvm.RoadKit.if0 _ _).trans (feq h).1) (n0 h)
theorem W.ic_eq {o : Int} {x z : Int32} (pc' : Nat) (hd : decode code pc = .ok (.if_icmp .eq o, 3)) (ho : 0 ≤ (pc : Int) + o) (hp : ((pc : Int) + o).toNat = pc') (n1 : x = z → W G K y code ret R Q As Li cells slots pc' Ls st) (n0 : ¬ x = z → W G K y code ret R Q As Li cells slots (pc + 3) Ls st) : W G K y code ret R Q As Li cells slots pc Ls (.int z :: .int x :: st) := by
  by_cases h : x = z
  · exact W.ic1 pc' hd ho hp (teq h).1 (n1 h)
  · exact W.ic0 hd (feq h).1 (n0 h)
theorem W.if_ne {o : Int} {x : Int32} (pc' : Nat) (hd : decode code pc = .ok (.ifCond .ne o, 3)) (ho : 0 ≤ (pc : Int) + o) (hp : ((pc : Int) + o).toNat = pc') (n1 : ¬ x = (0 : Int32) → W G K y code ret R Q As Li cells slots pc' Ls st) (n0 : x = (0 : Int32) → W G K y code ret R Q As Li cells slots (pc + 3) Ls st) : W G K y code ret R Q As Li cells slots pc Ls (.int x :: st) := by
  by_cases h : x = (0 : Int32)
  · exact W.if0 hd ((Jvm.RoadKit.if0 _ _).trans (teq h).2) (n0 h)
  · exact W.if1 pc' hd ho hp ((Jvm.RoadKit.if0 _ _).trans (feq h).2) (n1 h)
theorem W.ic_ne {o : Int} {x z : Int32} (pc' : Nat) (hd : decode code pc = .ok (.if_icmp .ne o, 3)) (ho : 0 ≤ (pc : Int) + o) (hp : ((pc : Int) + o).toNat = pc') (n1 : ¬ x = z → W G K y code ret R Q As Li cells slots pc' Ls st) (n0 : x = z → W G K y code ret R Q As Li cells slots (pc + 3) Ls st) : W G K y code ret R Q As Li cells slots pc Ls (.int z :: .int x :: st) := by
  by_cases h : x = z
  · exact W.ic0 hd (teq h).2 (n0 h)
  · exact W.ic1 pc' hd ho hp (feq h).2 (n1 h)
theorem W.if_lt {o : Int} {x : Int32} (pc' : Nat) (hd : decode code pc = .ok (.ifCond .lt o, 3)) (ho : 0 ≤ (pc : Int) + o) (hp : ((pc : Int) + o).toNat = pc') (n1 : x < (0 : Int32) → W G K y code ret R Q As Li cells slots pc' Ls st) (n0 : ¬ x < (0 : Int32) → W G K y code ret R Q As Li cells slots (pc + 3) Ls st) : W G K y code ret R Q As Li cells slots pc Ls (.int x :: st) := by
  by_cases h : x < (0 : Int32)
  · exact W.if1 pc' hd ho hp ((Jvm.RoadKit.if0 _ _).trans (tlt h).1) (n1 h)
  · exact W.if0 hd ((Jvm.RoadKit.if0 _ _).trans (flt h).1) (n0 h)
theorem W.ic_lt {o : Int} {x z : Int32} (pc' : Nat) (hd : decode code pc = .ok (.if_icmp .lt o, 3)) (ho : 0 ≤ (pc : Int) + o) (hp : ((pc : Int) + o).toNat = pc') (n1 : x < z → W G K y code ret R Q As Li cells slots pc' Ls st) (n0 : ¬ x < z → W G K y code ret R Q As Li cells slots (pc + 3) Ls st) : W G K y code ret R Q As Li cells slots pc Ls (.int z :: .int x :: st) := by
  by_cases h : x < z
  · exact W.ic1 pc' hd ho hp (tlt h).1 (n1 h)
  · exact W.ic0 hd (flt h).1 (n0 h)
theorem W.if_ge {o : Int} {x : Int32} (pc' : Nat) (hd : decode code pc = .ok (.ifCond .ge o, 3)) (ho : 0 ≤ (pc : Int) + o) (hp : ((pc : Int) + o).toNat = pc') (n1 : ¬ x < (0 : Int32) → W G K y code ret R Q As Li cells slots pc' Ls st) (n0 : x < (0 : Int32) → W G K y code ret R Q As Li cells slots (pc + 3) Ls st) : W G K y code ret R Q As Li cells slots pc Ls (.int x :: st) := by
  by_cases h : x < (0 : Int32)
  · exact W.if0 hd ((Jvm.RoadKit.if0 _ _).trans (tlt h).2.1) (n0 h)
  · exact W.if1 pc' hd ho hp ((Jvm.RoadKit.if0 _ _).trans (flt h).2.1) (n1 h)
theorem W.ic_ge {o : Int} {x z : Int32} (pc' : Nat) (hd : decode code pc = .ok (.if_icmp .ge o, 3)) (ho : 0 ≤ (pc : Int) + o) (hp : ((pc : Int) + o).toNat = pc') (n1 : ¬ x < z → W G K y code ret R Q As Li cells slots pc' Ls st) (n0 : x < z → W G K y code ret R Q As Li cells slots (pc + 3) Ls st) : W G K y code ret R Q As Li cells slots pc Ls (.int z :: .int x :: st) := by
  by_cases h : x < z
  · exact W.ic0 hd (tlt h).2.1 (n0 h)
  · exact W.ic1 pc' hd ho hp (flt h).2.1 (n1 h)
theorem W.if_gt {o : Int} {x : Int32} (pc' : Nat) (hd : decode code pc = .ok (.ifCond .gt o, 3)) (ho : 0 ≤ (pc : Int) + o) (hp : ((pc : Int) + o).toNat = pc') (n1 : (0 : Int32) < x → W G K y code ret R Q As Li cells slots pc' Ls st) (n0 : ¬ (0 : Int32) < x → W G K y code ret R Q As Li cells slots (pc + 3) Ls st) : W G K y code ret R Q As Li cells slots pc Ls (.int x :: st) := by
  by_cases h : (0 : Int32) < x
  · exact W.if1 pc' hd ho hp ((Jvm.RoadKit.if0 _ _).trans (tlt h).2.2.1) (n1 h)
  · exact W.if0 hd ((Jvm.RoadKit.if0 _ _).trans (flt h).2.2.1) (n0 h)
theorem W.ic_gt {o : Int} {x z : Int32} (pc' : Nat) (hd : decode code pc = .ok (.if_icmp .gt o, 3)) (ho : 0 ≤ (pc : Int) + o) (hp : ((pc : Int) + o).toNat = pc') (n1 : z < x → W G K y code ret R Q As Li cells slots pc' Ls st) (n0 : ¬ z < x → W G K y code ret R Q As Li cells slots (pc + 3) Ls st) : W G K y code ret R Q As Li cells slots pc Ls (.int z :: .int x :: st) := by
  by_cases h : z < x
  · exact W.ic1 pc' hd ho hp (tlt h).2.2.1 (n1 h)
  · exact W.ic0 hd (flt h).2.2.1 (n0 h)
theorem W.if_le {o : Int} {x : Int32} (pc' : Nat) (hd : decode code pc = .ok (.ifCond .le o, 3)) (ho : 0 ≤ (pc : Int) + o) (hp : ((pc : Int) + o).toNat = pc') (n1 : ¬ (0 : Int32) < x → W G K y code ret R Q As Li cells slots pc' Ls st) (n0 : (0 : Int32) < x → W G K y code ret R Q As Li cells slots (pc + 3) Ls st) : W G K y code ret R Q As Li cells slots pc Ls (.int x :: st) := by
  by_cases h : (0 : Int32) < x
  · exact W.if0 hd ((Jvm.RoadKit.if0 _ _).trans (tlt h).2.2.2) (n0 h)
  · exact W.if1 pc' hd ho hp ((Jvm.RoadKit.if0 _ _).trans (flt h).2.2.2) (n1 h)
theorem W.ic_le {o : Int} {x z : Int32} (pc' : Nat) (hd : decode code pc = .ok (.if_icmp .le o, 3)) (ho : 0 ≤ (pc : Int) + o) (hp : ((pc : Int) + o).toNat = pc') (n1 : ¬ z < x → W G K y code ret R Q As Li cells slots pc' Ls st) (n0 : z < x → W G K y code ret R Q As Li cells slots (pc + 3) Ls st) : W G K y code ret R Q As Li cells slots pc Ls (.int z :: .int x :: st) := by
  by_cases h : z < x
  · exact W.ic0 hd (tlt h).2.2.2 (n0 h)
  · exact W.ic1 pc' hd ho hp (flt h).2.2.2 (n1 h)
end Laws
end Jvm.Own
namespace Jvm.Own
open Sem ClassFile Op Lib Jvm.Stand Jvm.Free Jvm.LawKit Jvm.RoadKit
section Laws
variable {G : Gx} {K : Kx} {y : MethodName} {code : ByteArray} {ret : Option FieldType} {R : Room} {Q : Qx} {As As' : List Ent} {Li Li' : List LitE} {cells slots pc pc' : Nat} {Ls Ls' : List Slot} {st st' : List Value}
variable {a b : Addr} {w : Bool} {C O n d R0 host : String} {v x : Value} {fs : List Fd} {vs vs' : List Value} {t ty : FieldType} {idx kk : Nat}
theorem ok_Z {vm0 : Vm} {k0 mL : Nat} (ok : Ok G K y code mL ret) (hS : K.s.Since vm0 k0) : G.Z.Warmed39 (K.s.setVm vm0).vm := State.Warmed39.trans ok.2.2.2.1 hS.1
theorem ok_own {vm0 : Vm} {k0 mL : Nat} (ok : Ok G K y code mL ret) (hS : K.s.Since vm0 k0) : (K.s.setVm vm0).vm.findClass y.cls = some K.m.cls := by
  show vm0.findClass y.cls = _
  rw [hS.1.alike.findClass]; exact ok.2.2.2.2.1
theorem ok_fk {mL : Nat} (ok : Ok G K y code mL ret) : FK G K.below := ok.2.2.2.2.2.2.2.2.2.1
theorem ok_ext {mL : Nat} (ok : Ok G K y code mL ret) : Ext G.Z.heap K.s.heap := ok.2.2.2.2.2.2.2.2.2.2
/-! ### fields -/
theorem W.getF (wl : (Cond.fieldLink y.cls idx R0 n d).before G.a0 G.Z = true ∨ (Cond.fieldLinkNest y.cls idx R0 n d host).before G.a0 G.Z = true) (via : Via G.Z R0 O n d) (hd : decode code pc = .ok (.getfield idx, 3))
    (hm : (a, w, obj C fs vs) ∈ As) (hf : FAt fs vs O n d v) (nx : W G K y code ret R Q As Li cells slots (pc + 3) Ls (v :: st)) : W G K y code ret R Q As Li cells slots pc Ls (.ref a :: st) := by
  intro T vm0 k0 locs ok X hS hk hN hI hL hF
  obtain ⟨T', X', e', st'⟩ := Jvm.RoadKit.getF X ok.1 (ok_Z ok hS) (ok_own ok hS) wl via rfl (hI.fld hm hf) (g := mkF K.m pc Ls.toArray (.ref a :: st)) rfl rfl (hb ok.2.1 hd)
  obtain ⟨U, u, h1, h2⟩ := nx T' vm0 k0 locs ok X' hS (by rw [e']; exact hk) hN (by rw [e']; exact hI) hL hF
  exact ⟨U, u, st' _ h1, h2⟩
/-- .. of an object that stood at the start -/
theorem W.getFo (wl : (Cond.fieldLink y.cls idx R0 n d).before G.a0 G.Z = true ∨ (Cond.fieldLinkNest y.cls idx R0 n d host).before G.a0 G.Z = true) (via : Via G.Z R0 O n d) (hd : decode code pc = .ok (.getfield idx, 3))
    (F : Fld G.Z G.Z.heap a O n d v) (nx : W G K y code ret R Q As Li cells slots (pc + 3) Ls (v :: st)) : W G K y code ret R Q As Li cells slots pc Ls (.ref a :: st) := by
  intro T vm0 k0 locs ok X hS hk hN hI hL hF
  obtain ⟨T', X', e', st'⟩ := Jvm.RoadKit.getF X ok.1 (ok_Z ok hS) (ok_own ok hS) wl via rfl (F.ext hI.old) (g := mkF K.m pc Ls.toArray (.ref a :: st)) rfl rfl (hb ok.2.1 hd)
  obtain ⟨U, u, h1, h2⟩ := nx T' vm0 k0 locs ok X' hS (by rw [e']; exact hk) hN (by rw [e']; exact hI) hL hF
  exact ⟨U, u, st' _ h1, h2⟩
theorem W.putF (wl : (Cond.fieldLink y.cls idx R0 n d).before G.a0 G.Z = true ∨ (Cond.fieldLinkNest y.cls idx R0 n d host).before G.a0 G.Z = true) (via : Via G.Z R0 O n d) (hd : decode code pc = .ok (.putfield idx, 3))
    (L : (Cond.lays C O n d).before G.a0 G.Z = true ∨ ((Cond.laysFinal C O n d).before G.a0 G.Z = true ∧ y.cls = O ∧ y.name = "<init>")) (wi : (Cond.instantiable C kk).before G.a0 G.Z = true)
    (hty : parseFieldDescriptor d = some ty) (hn : narrow ty x = x) (hf : fits ty x = true)
    (u : Upd As a (obj C fs vs) (obj C fs vs') As') (q : FUp fs vs O n d x vs') (nx : W G K y code ret R Q As' Li cells slots (pc + 3) Ls st) : W G K y code ret R Q As Li cells slots pc Ls (x :: .ref a :: st) := by
  intro T vm0 k0 locs ok X hS hk hN hI hL hF
  have hm := u.mem
  obtain ⟨i, q1, q2, -⟩ := id q
  have F0 : Fld G.Z T.heap a O n d vs[i] := (hI.2.2 _ hm).2.2.2.1 i _ _ q1 (List.getElem?_eq_getElem q2)
  obtain ⟨T', h', X', e', W', st'⟩ := Jvm.RoadKit.putF X ok.1 (ok_Z ok hS) (ok_own ok hS) wl via rfl F0 (hI.exa hm) (L.imp id fun r => ⟨r.1, r.2.1, ok.2.2.2.2.2.1.trans r.2.2⟩) wi hty hn hf (g := mkF K.m pc Ls.toArray (x :: .ref a :: st)) rfl rfl (hb ok.2.1 hd)
  obtain ⟨U, u', h1, h2⟩ := nx T' vm0 k0 _ ok X' hS (by rw [e', W'.size]; exact hk) hN (by rw [e']; exact hI.wrF u q W') hL (Fr.snoc X' hF ((hI.2.2 _ hm).1 rfl))
  exact ⟨U, u', st' _ h1, h2⟩
/-- a boolean, byte, char or short: what the field keeps of the int -/
theorem W.putN (wl : (Cond.fieldLink y.cls idx R0 n d).before G.a0 G.Z = true) (via : Via G.Z R0 O n d) (hd : decode code pc = .ok (.putfield idx, 3))
    (L : (Cond.lays C O n d).before G.a0 G.Z = true ∨ ((Cond.laysFinal C O n d).before G.a0 G.Z = true ∧ y.cls = O ∧ y.name = "<init>")) (wi : (Cond.instantiable C kk).before G.a0 G.Z = true)
    {x' : Value} (hty : parseFieldDescriptor d = some ty) (hn : narrow ty x = x') (hf : fits ty x' = true)
    (u : Upd As a (obj C fs vs) (obj C fs vs') As') (q : FUp fs vs O n d x' vs') (nx : W G K y code ret R Q As' Li cells slots (pc + 3) Ls st) : W G K y code ret R Q As Li cells slots pc Ls (x :: .ref a :: st) := by
  intro T vm0 k0 locs ok X hS hk hN hI hL hF
  have hm := u.mem
  obtain ⟨i, q1, q2, -⟩ := id q
  have F0 : Fld G.Z T.heap a O n d vs[i] := (hI.2.2 _ hm).2.2.2.1 i _ _ q1 (List.getElem?_eq_getElem q2)
  obtain ⟨T', h', X', e', W', st'⟩ := Jvm.RoadKit.putFN X ok.1 (ok_Z ok hS) (ok_own ok hS) wl via rfl F0 (hI.exa hm) (L.imp id fun r => ⟨r.1, r.2.1, ok.2.2.2.2.2.1.trans r.2.2⟩) wi hty hn hf (g := mkF K.m pc Ls.toArray (x :: .ref a :: st)) rfl rfl (hb ok.2.1 hd)
  obtain ⟨U, u', h1, h2⟩ := nx T' vm0 k0 _ ok X' hS (by rw [e', W'.size]; exact hk) hN (by rw [e']; exact hI.wrF u q W') hL (Fr.snoc X' hF ((hI.2.2 _ hm).1 rfl))
  exact ⟨U, u', st' _ h1, h2⟩
theorem W.getS (wl : (Cond.fieldLink y.cls idx R0 n d).before G.a0 G.Z = true ∨ (Cond.fieldLinkNest y.cls idx R0 n d host).before G.a0 G.Z = true) (via : Via G.Z R0 O n d) (hd : decode code pc = .ok (.getstatic idx, 3))
    (F : Sta G.Z G.Z.heap O n d v) (nx : W G K y code ret R Q As Li cells slots (pc + 3) Ls (v :: st)) : W G K y code ret R Q As Li cells slots pc Ls st := by
  intro T vm0 k0 locs ok X hS hk hN hI hL hF
  obtain ⟨T', X', e', st'⟩ := getS2 X ok.1 (ok_Z ok hS) (ok_own ok hS) wl via rfl (F.ext hI.old) (g := mkF K.m pc Ls.toArray st) rfl (hb ok.2.1 hd)
  obtain ⟨U, u, h1, h2⟩ := nx T' vm0 k0 locs ok X' hS (by rw [e']; exact hk) hN (by rw [e']; exact hI) hL hF
  exact ⟨U, u, st' _ h1, h2⟩
/-! ### objects and arrays are made -/
def dv (d : String) : Value := defaultValue ((parseFieldDescriptor d).getD .int)
theorem W.new (wl : (Cond.classLink y.cls idx C).before G.a0 G.Z = true) (wi : (Cond.instantiable C kk).before G.a0 G.Z = true) (wz : (Cond.initialized C).before G.a0 G.Z = true) (hd : decode code pc = .ok (.new idx, 3))
    (hl : LaidAll G.Z G.a0 C fs) (hv : (fs.map fun f => dv f.2.2) = vs) (hc : cells + 1 ≤ R.cells) (hs : slots + kk ≤ R.slots)
    (nx : ∀ a, W G K y code ret R Q ((a, true, obj C fs vs) :: As) Li (cells + 1) (slots + kk) (pc + 3) Ls (.ref a :: st)) : W G K y code ret R Q As Li cells slots pc Ls st := by
  intro T vm0 k0 locs ok X hS hk hN hI hL hF
  obtain ⟨T', h', X', e', E, A, D, N, st'⟩ := newO X ok.1 (ok_Z ok hS) (ok_own ok hS) wl wi wz rfl (g := mkF K.m pc Ls.toArray st) rfl (hb ok.2.1 hd) hc hs
  have hD : Des G.Z G.a0 h' T.heap.size true (obj C fs vs) := by
    subst hv
    refine ⟨A, by simp, fun i f v hf hv => ?_, fun _ => ⟨hl, N⟩⟩
    rw [List.getElem?_map, hf] at hv
    cases hv
    obtain ⟨L1, t, ht⟩ := hl.2 f (List.mem_of_getElem? hf)
    have q := D L1 ht
    simpa [dv, ht] using q
  obtain ⟨U, u, h1, h2⟩ := nx T.heap.size T' vm0 k0 locs ok X' hS (by rw [e']; exact Nat.le_trans hk E.1) hN (by rw [e']; exact hI.push E hD) hL hF
  exact ⟨U, u, st' _ h1, h2⟩
theorem AV.of_new {Z : State} {h : Heap} {cA : ClassId} {z : Int32} (A : Arr Z h a (newA cA t z) t) (hO : ∀ C, t = .object C → Ovr Z cA C) (hB : t = .byte → Z.vm.findClass "[B" = some cA) : AV Z h a true t (List.replicate z.toNatClampNeg (defaultValue t)) := by
  refine ⟨_, A, by simp [newA], ?_, fun v hv => ?_, fun _ => ⟨hO, hB⟩⟩
  · have := Int32.toInt_lt z
    rw [List.length_replicate]; simp only [Int32.toNatClampNeg]; omega
  · rw [List.eq_of_mem_replicate hv]; cases t <;> rfl
theorem W.newP {aty : ArrayType} {z : Int32} (cap : Nat) (wl : (Cond.arrayClass (newarray.typeOf aty)).before G.a0 G.Z = true) (hd : decode code pc = .ok (.newarray aty, 2)) (ht : newarray.typeOf aty = t) (hz : ¬ z < 0) (hcap : z.toNatClampNeg ≤ cap) (hb8 : cap * 8 ≤ 536870912)
    (hv : List.replicate z.toNatClampNeg (defaultValue t) = vs) (hc : cells + 1 ≤ R.cells) (hs : slots + cap ≤ R.slots)
    (nx : ∀ a, W G K y code ret R Q ((a, true, arr t vs) :: As) Li (cells + 1) (slots + cap) (pc + 2) Ls (.ref a :: st)) : W G K y code ret R Q As Li cells slots pc Ls (.int z :: st) := by
  intro T vm0 k0 locs ok X hS hk hN hI hL hF
  obtain ⟨T', h', cA, X', e', E, A, Ex, st'⟩ := Jvm.RoadKit.newPE X ok.1 (ok_Z ok hS) wl rfl (g := mkF K.m pc Ls.toArray (.int z :: st)) rfl (hb ok.2.1 hd) rfl hz hcap hb8 hc hs rfl
  have hD : Des G.Z G.a0 h' T.heap.size true (arr t vs) := by
    subst hv; subst ht
    exact AV.of_new A (fun C e => by cases aty <;> cases e) (fun e => by
      obtain ⟨c2, k2, x1, x2, -⟩ := Ex
      cases A.1.symm.trans x1
      rw [e] at x2
      exact x2)
  obtain ⟨U, u, h1, h2⟩ := nx T.heap.size T' vm0 k0 locs ok X' hS (by rw [e']; exact Nat.le_trans hk E.1) hN (by rw [e']; exact hI.push E hD) hL hF
  exact ⟨U, u, st' _ h1, h2⟩
theorem W.newR {z : Int32} (cap : Nat) (wl : (Cond.classLink y.cls idx C).before G.a0 G.Z = true) (wo : (Cond.arrayOver (.object C)).before G.a0 G.Z = true) (hd : decode code pc = .ok (.anewarray idx, 3)) (hz : ¬ z < 0) (hcap : z.toNatClampNeg ≤ cap) (hb8 : cap * 8 ≤ 536870912)
    (hv : List.replicate z.toNatClampNeg Value.null = vs) (hc : cells + 1 ≤ R.cells) (hs : slots + cap ≤ R.slots)
    (nx : ∀ a, W G K y code ret R Q ((a, true, arr (.object C) vs) :: As) Li (cells + 1) (slots + cap) (pc + 3) Ls (.ref a :: st)) : W G K y code ret R Q As Li cells slots pc Ls (.int z :: st) := by
  intro T vm0 k0 locs ok X hS hk hN hI hL hF
  obtain ⟨T', h', cA, X', e', E, A, O, st'⟩ := Jvm.RoadKit.newR X ok.1 (ok_Z ok hS) (ok_own ok hS) wl wo rfl (g := mkF K.m pc Ls.toArray (.int z :: st)) rfl (hb ok.2.1 hd) rfl hz hcap hb8 hc hs
  have hD : Des G.Z G.a0 h' T.heap.size true (arr (.object C) vs) := by
    subst hv
    exact AV.of_new A (fun C' e => by cases e; exact O) (fun e => by cases e)
  obtain ⟨U, u, h1, h2⟩ := nx T.heap.size T' vm0 k0 locs ok X' hS (by rw [e']; exact Nat.le_trans hk E.1) hN (by rw [e']; exact hI.push E hD) hL hF
  exact ⟨U, u, st' _ h1, h2⟩
/-! ### arrays -/
theorem size_of {c : Cell} (e : c.slots.toList = vs) : c.slots.size = vs.length := by rw [← e]; simp
/-- what the walk knows of an array: its own, or one that stood at the start -/
def AVin (G : Gx) (As : List Ent) (a : Addr) (t : FieldType) (vs : List Value) : Prop := (∃ w, (a, w, arr t vs) ∈ As) ∨ AV G.Z G.Z.heap a false t vs
theorem AVin.mem (hm : (a, w, arr t vs) ∈ As) : AVin G As a t vs := Or.inl ⟨w, hm⟩
theorem AVin.old (A : AV G.Z G.Z.heap a false t vs) : AVin G As a t vs := Or.inr A
theorem AVin.get {h : Heap} (q : AVin G As a t vs) (I : Inv G As h) : AV G.Z h a false t vs := by
  rcases q with ⟨w, hm⟩ | ⟨c, A, r⟩
  · obtain ⟨c, A, e1, e2, e3, -⟩ := I.av hm
    exact ⟨c, A, e1, e2, e3, fun q => nomatch q⟩
  · exact ⟨c, A.ext I.old, r⟩
theorem W.alen {z : Int32} (hd : decode code pc = .ok (.arraylength, 1)) (hm : AVin G As a t vs) (hz : vs.length.toInt32 = z) (nx : W G K y code ret R Q As Li cells slots (pc + 1) Ls (.int z :: st)) : W G K y code ret R Q As Li cells slots pc Ls (.ref a :: st) := by
  intro T vm0 k0 locs ok X hS hk hN hI hL hF
  obtain ⟨c, A, e1, e2, e3, e4⟩ := hm.get hI
  obtain ⟨U, u, h1, h2⟩ := nx T vm0 k0 locs ok X hS hk hN hI hL hF
  refine ⟨U, u, X.arraylength ok.1 A.1 (State.isArrayOf_alike (ok_Z ok hS).alike A.2.1) (g := mkF K.m pc Ls.toArray (.ref a :: st)) rfl rfl (hb ok.2.1 hd) _ ?_, h2⟩
  rw [size_of e1, hz]; exact h1
theorem in_of {c : Cell} {j : Int32} (e : c.slots.toList = vs) (hj : ¬ j < 0) (hv : vs[j.toNatClampNeg]? = some v) : ¬ (j < 0 ∨ c.slots.size ≤ j.toNatClampNeg) ∧ c.slots[j.toNatClampNeg]? = some v := by
  refine ⟨fun q => q.elim hj fun r => ?_, ?_⟩
  · rw [size_of e] at r; exact absurd (List.getElem?_eq_some_iff.mp hv).1 (Nat.not_lt.mpr r)
  · rw [← Array.getElem?_toList, e]; exact hv
theorem W.iaload {j : Int32} (hd : decode code pc = .ok (.iaload, 1)) (hm : AVin G As a .int vs) (hj : ¬ j < 0) (hv : vs[j.toNatClampNeg]? = some v) (nx : W G K y code ret R Q As Li cells slots (pc + 1) Ls (v :: st)) : W G K y code ret R Q As Li cells slots pc Ls (.int j :: .ref a :: st) := by
  intro T vm0 k0 locs ok X hS hk hN hI hL hF
  obtain ⟨c, A, e1, -⟩ := hm.get hI
  obtain ⟨i1, i2⟩ := in_of e1 hj hv
  obtain ⟨U, u, h1, h2⟩ := nx T vm0 k0 locs ok X hS hk hN hI hL hF
  exact ⟨U, u, X.iaload ok.1 A.1 (State.isArrayOf_alike (ok_Z ok hS).alike A.2.1) A.2.2 i1 i2 (g := mkF K.m pc Ls.toArray (.int j :: .ref a :: st)) rfl rfl (hb ok.2.1 hd) _ h1, h2⟩
theorem W.laload {j : Int32} (hd : decode code pc = .ok (.laload, 1)) (hm : AVin G As a .long vs) (hj : ¬ j < 0) (hv : vs[j.toNatClampNeg]? = some v) (nx : W G K y code ret R Q As Li cells slots (pc + 1) Ls (v :: st)) : W G K y code ret R Q As Li cells slots pc Ls (.int j :: .ref a :: st) := by
  intro T vm0 k0 locs ok X hS hk hN hI hL hF
  obtain ⟨c, A, e1, -⟩ := hm.get hI
  obtain ⟨i1, i2⟩ := in_of e1 hj hv
  obtain ⟨U, u, h1, h2⟩ := nx T vm0 k0 locs ok X hS hk hN hI hL hF
  exact ⟨U, u, X.laload ok.1 A.1 (State.isArrayOf_alike (ok_Z ok hS).alike A.2.1) A.2.2 i1 i2 (g := mkF K.m pc Ls.toArray (.int j :: .ref a :: st)) rfl rfl (hb ok.2.1 hd) _ h1, h2⟩
theorem W.caload {j : Int32} (hd : decode code pc = .ok (.caload, 1)) (hm : AVin G As a .char vs) (hj : ¬ j < 0) (hv : vs[j.toNatClampNeg]? = some v) (nx : W G K y code ret R Q As Li cells slots (pc + 1) Ls (v :: st)) : W G K y code ret R Q As Li cells slots pc Ls (.int j :: .ref a :: st) := by
  intro T vm0 k0 locs ok X hS hk hN hI hL hF
  obtain ⟨c, A, e1, -⟩ := hm.get hI
  obtain ⟨i1, i2⟩ := in_of e1 hj hv
  obtain ⟨U, u, h1, h2⟩ := nx T vm0 k0 locs ok X hS hk hN hI hL hF
  exact ⟨U, u, X.caload ok.1 A.1 (State.isArrayOf_alike (ok_Z ok hS).alike A.2.1) A.2.2 i1 i2 (g := mkF K.m pc Ls.toArray (.int j :: .ref a :: st)) rfl rfl (hb ok.2.1 hd) _ h1, h2⟩
theorem W.saload {j : Int32} (hd : decode code pc = .ok (.saload, 1)) (hm : AVin G As a .short vs) (hj : ¬ j < 0) (hv : vs[j.toNatClampNeg]? = some v) (nx : W G K y code ret R Q As Li cells slots (pc + 1) Ls (v :: st)) : W G K y code ret R Q As Li cells slots pc Ls (.int j :: .ref a :: st) := by
  intro T vm0 k0 locs ok X hS hk hN hI hL hF
  obtain ⟨c, A, e1, -⟩ := hm.get hI
  obtain ⟨i1, i2⟩ := in_of e1 hj hv
  obtain ⟨U, u, h1, h2⟩ := nx T vm0 k0 locs ok X hS hk hN hI hL hF
  exact ⟨U, u, X.saload ok.1 A.1 (State.isArrayOf_alike (ok_Z ok hS).alike A.2.1) A.2.2 i1 i2 (g := mkF K.m pc Ls.toArray (.int j :: .ref a :: st)) rfl rfl (hb ok.2.1 hd) _ h1, h2⟩
theorem W.baload {j : Int32} (hd : decode code pc = .ok (.baload, 1)) (hm : AVin G As a .byte vs) (hj : ¬ j < 0) (hv : vs[j.toNatClampNeg]? = some v) (nx : W G K y code ret R Q As Li cells slots (pc + 1) Ls (v :: st)) : W G K y code ret R Q As Li cells slots pc Ls (.int j :: .ref a :: st) := by
  intro T vm0 k0 locs ok X hS hk hN hI hL hF
  obtain ⟨c, A, e1, -⟩ := hm.get hI
  obtain ⟨i1, i2⟩ := in_of e1 hj hv
  obtain ⟨U, u, h1, h2⟩ := nx T vm0 k0 locs ok X hS hk hN hI hL hF
  exact ⟨U, u, X.baloadBytes ok.1 A.1 (State.isArrayOf_alike (ok_Z ok hS).alike A.2.1) A.2.2 i1 i2 (g := mkF K.m pc Ls.toArray (.int j :: .ref a :: st)) rfl rfl (hb ok.2.1 hd) _ h1, h2⟩
theorem W.aaload {j : Int32} (hd : decode code pc = .ok (.aaload, 1)) (hm : AVin G As a t vs) (hr : t.isReference = true) (hj : ¬ j < 0) (hv : vs[j.toNatClampNeg]? = some v) (nx : W G K y code ret R Q As Li cells slots (pc + 1) Ls (v :: st)) : W G K y code ret R Q As Li cells slots pc Ls (.int j :: .ref a :: st) := by
  intro T vm0 k0 locs ok X hS hk hN hI hL hF
  obtain ⟨c, A, e1, -⟩ := hm.get hI
  obtain ⟨i1, i2⟩ := in_of e1 hj hv
  obtain ⟨U, u, h1, h2⟩ := nx T vm0 k0 locs ok X hS hk hN hI hL hF
  exact ⟨U, u, X.aaload ok.1 A.1 (State.isArrayOf_alike (ok_Z ok hS).alike A.2.1) hr A.2.2 i1 i2 (g := mkF K.m pc Ls.toArray (.int j :: .ref a :: st)) rfl rfl (hb ok.2.1 hd) _ h1, h2⟩
theorem W.iastore {j z : Int32} {i : Nat} {u : Value} (hd : decode code pc = .ok (.iastore, 1)) (hj : ¬ j < 0) (hi : j.toNatClampNeg = i) (hl : i < vs.length) (hu : (.int z) = u) (hv : vs.set i u = vs') (up : Upd As a (arr .int vs) (arr .int vs') As')
    (nx : W G K y code ret R Q As' Li cells slots (pc + 1) Ls st) : W G K y code ret R Q As Li cells slots pc Ls (.int z :: .int j :: .ref a :: st) := by
  intro T vm0 k0 locs ok X hS hk hN hI hL hF
  have hm := up.mem
  obtain ⟨c, A, e1, e2, e3, e4⟩ := hI.av hm
  subst hi; subst hu; subst hv
  have i1 : ¬ (j < 0 ∨ c.slots.size ≤ j.toNatClampNeg) := fun q => q.elim hj fun r => by rw [size_of e1] at r; exact absurd hl (Nat.not_lt.mpr r)
  obtain ⟨T', h', X', e', W', st'⟩ := stI X ok.1 (ok_Z ok hS) rfl A i1 (g := mkF K.m pc Ls.toArray (.int z :: .int j :: .ref a :: st)) rfl rfl (hb ok.2.1 hd)
  obtain ⟨U, u', h1, h2⟩ := nx T' vm0 k0 _ ok X' hS (by rw [e', W'.size]; exact hk) hN (by rw [e']; exact hI.wrA A up rfl W') hL (Fr.snoc X' hF ((hI.2.2 _ hm).1 rfl))
  exact ⟨U, u', st' _ h1, h2⟩
theorem W.castore {j z : Int32} {i : Nat} {u : Value} (hd : decode code pc = .ok (.castore, 1)) (hj : ¬ j < 0) (hi : j.toNatClampNeg = i) (hl : i < vs.length) (hu : (.int (nar .char z)) = u) (hv : vs.set i u = vs') (up : Upd As a (arr .char vs) (arr .char vs') As')
    (nx : W G K y code ret R Q As' Li cells slots (pc + 1) Ls st) : W G K y code ret R Q As Li cells slots pc Ls (.int z :: .int j :: .ref a :: st) := by
  intro T vm0 k0 locs ok X hS hk hN hI hL hF
  have hm := up.mem
  obtain ⟨c, A, e1, e2, e3, e4⟩ := hI.av hm
  subst hi; subst hu; subst hv
  have i1 : ¬ (j < 0 ∨ c.slots.size ≤ j.toNatClampNeg) := fun q => q.elim hj fun r => by rw [size_of e1] at r; exact absurd hl (Nat.not_lt.mpr r)
  obtain ⟨T', h', X', e', W', st'⟩ := stC X ok.1 (ok_Z ok hS) rfl A i1 (g := mkF K.m pc Ls.toArray (.int z :: .int j :: .ref a :: st)) rfl rfl (hb ok.2.1 hd)
  obtain ⟨U, u', h1, h2⟩ := nx T' vm0 k0 _ ok X' hS (by rw [e', W'.size]; exact hk) hN (by rw [e']; exact hI.wrA A up (fits_nar_char _) W') hL (Fr.snoc X' hF ((hI.2.2 _ hm).1 rfl))
  exact ⟨U, u', st' _ h1, h2⟩
theorem W.bastore {j z : Int32} {i : Nat} {u : Value} (hd : decode code pc = .ok (.bastore, 1)) (hj : ¬ j < 0) (hi : j.toNatClampNeg = i) (hl : i < vs.length) (hu : (.int (nar .byte z)) = u) (hv : vs.set i u = vs') (up : Upd As a (arr .byte vs) (arr .byte vs') As')
    (nx : W G K y code ret R Q As' Li cells slots (pc + 1) Ls st) : W G K y code ret R Q As Li cells slots pc Ls (.int z :: .int j :: .ref a :: st) := by
  intro T vm0 k0 locs ok X hS hk hN hI hL hF
  have hm := up.mem
  obtain ⟨c, A, e1, e2, e3, e4⟩ := hI.av hm
  subst hi; subst hu; subst hv
  have i1 : ¬ (j < 0 ∨ c.slots.size ≤ j.toNatClampNeg) := fun q => q.elim hj fun r => by rw [size_of e1] at r; exact absurd hl (Nat.not_lt.mpr r)
  obtain ⟨T', h', X', e', W', st'⟩ := stB X ok.1 (ok_Z ok hS) rfl A i1 (g := mkF K.m pc Ls.toArray (.int z :: .int j :: .ref a :: st)) rfl rfl (hb ok.2.1 hd)
  obtain ⟨U, u', h1, h2⟩ := nx T' vm0 k0 _ ok X' hS (by rw [e', W'.size]; exact hk) hN (by rw [e']; exact hI.wrA A up (fits_nar_byte _) W') hL (Fr.snoc X' hF ((hI.2.2 _ hm).1 rfl))
  exact ⟨U, u', st' _ h1, h2⟩
theorem W.sastore {j z : Int32} {i : Nat} {u : Value} (hd : decode code pc = .ok (.sastore, 1)) (hj : ¬ j < 0) (hi : j.toNatClampNeg = i) (hl : i < vs.length) (hu : (.int (nar .short z)) = u) (hv : vs.set i u = vs') (up : Upd As a (arr .short vs) (arr .short vs') As')
    (nx : W G K y code ret R Q As' Li cells slots (pc + 1) Ls st) : W G K y code ret R Q As Li cells slots pc Ls (.int z :: .int j :: .ref a :: st) := by
  intro T vm0 k0 locs ok X hS hk hN hI hL hF
  have hm := up.mem
  obtain ⟨c, A, e1, e2, e3, e4⟩ := hI.av hm
  subst hi; subst hu; subst hv
  have i1 : ¬ (j < 0 ∨ c.slots.size ≤ j.toNatClampNeg) := fun q => q.elim hj fun r => by rw [size_of e1] at r; exact absurd hl (Nat.not_lt.mpr r)
  obtain ⟨T', h', X', e', W', st'⟩ := stS X ok.1 (ok_Z ok hS) rfl A i1 (g := mkF K.m pc Ls.toArray (.int z :: .int j :: .ref a :: st)) rfl rfl (hb ok.2.1 hd)
  obtain ⟨U, u', h1, h2⟩ := nx T' vm0 k0 _ ok X' hS (by rw [e', W'.size]; exact hk) hN (by rw [e']; exact hI.wrA A up (fits_nar_short _) W') hL (Fr.snoc X' hF ((hI.2.2 _ hm).1 rfl))
  exact ⟨U, u', st' _ h1, h2⟩
/-! ### casts -/
/-- what the walk knows of an object's class: its own, or one that stood at the start -/
def Is (G : Gx) (As : List Ent) (a : Addr) (C : String) : Prop := (∃ w fs vs, (a, w, obj C fs vs) ∈ As) ∨ Exa G.Z G.Z.heap a C
theorem Is.mem (hm : (a, w, obj C fs vs) ∈ As) : Is G As a C := Or.inl ⟨w, fs, vs, hm⟩
theorem Is.old (E : Exa G.Z G.Z.heap a C) : Is G As a C := Or.inr E
theorem Is.exa {h : Heap} (q : Is G As a C) (I : Inv G As h) : Exa G.Z h a C := by
  rcases q with ⟨w, fs, vs, hm⟩ | E
  · exact I.exa hm
  · exact E.ext I.old
/-- a reference array takes a reference (aastore's own test): null, or an object of a class that may lie there -/
theorem W.aastore {j : Int32} {i : Nat} (hd : decode code pc = .ok (.aastore, 1)) (hj : ¬ j < 0) (hi : j.toNatClampNeg = i) (hl : i < vs.length) (hr : x = .null ∨ ∃ o D, x = .ref o ∧ Is G As o D ∧ (D = C ∨ (Cond.castable D C).before G.a0 G.Z = true)) (hv : vs.set i x = vs') (up : Upd As a (arr (.object C) vs) (arr (.object C) vs') As')
    (nx : W G K y code ret R Q As' Li cells slots (pc + 1) Ls st) : W G K y code ret R Q As Li cells slots pc Ls (x :: .int j :: .ref a :: st) := by
  intro T vm0 k0 locs ok X hS hk hN hI hL hF
  have hm := up.mem
  obtain ⟨c, A, e1, e2, e3, e4⟩ := hI.av hm
  subst hi; subst hv
  have i1 : ¬ (j < 0 ∨ c.slots.size ≤ j.toNatClampNeg) := fun q => q.elim hj fun r => by rw [size_of e1] at r; exact absurd hl (Nat.not_lt.mpr r)
  have S : Sto G.Z T.heap a x := by
    rcases hr with rfl | ⟨o, D, rfl, q, rfl | q'⟩
    · exact Or.inl rfl
    · exact Sto.of A ((e4 rfl).1 _ rfl) (Ins.self (q.exa hI))
    · exact Sto.of A ((e4 rfl).1 _ rfl) (Ins.of_exa (q.exa hI) q')
  have hfx : fits (.object C) x = true := by rcases hr with rfl | ⟨o, D, rfl, -⟩ <;> rfl
  obtain ⟨T', h', X', e', W', st'⟩ := stR X ok.1 (ok_Z ok hS) rfl A i1 rfl S (g := mkF K.m pc Ls.toArray (x :: .int j :: .ref a :: st)) rfl rfl (hb ok.2.1 hd)
  obtain ⟨U, u', h1, h2⟩ := nx T' vm0 k0 _ ok X' hS (by rw [e', W'.size]; exact hk) hN (by rw [e']; exact hI.wrA A up hfx W') hL (Fr.snoc X' hF ((hI.2.2 _ hm).1 rfl))
  exact ⟨U, u', st' _ h1, h2⟩
theorem W.castN {g : Nat} (hd : decode code pc = .ok (.checkcast idx, 3)) (nx : W G K y code ret R Q As Li cells slots (pc + 3) Ls (.null :: st)) : W G K y code ret R Q As Li cells slots pc Ls (.null :: st) := by
  intro T vm0 k0 locs ok X hS hk hN hI hL hF
  obtain ⟨U, u, h1, h2⟩ := nx T vm0 k0 locs ok X hS hk hN hI hL hF
  exact ⟨U, u, X.checkcastNull ok.1 (g := mkF K.m pc Ls.toArray (.null :: st)) rfl rfl (hb ok.2.1 hd) _ h1, h2⟩
theorem W.instNull (hd : decode code pc = .ok (.instanceof idx, 3)) (nx : W G K y code ret R Q As Li cells slots (pc + 3) Ls (.int 0 :: st)) : W G K y code ret R Q As Li cells slots pc Ls (.null :: st) := by
  intro T vm0 k0 locs ok X hS hk hN hI hL hF
  obtain ⟨U, u, h1, h2⟩ := nx T vm0 k0 locs ok X hS hk hN hI hL hF
  exact ⟨U, u, X.instanceofNull ok.1 (g := mkF K.m pc Ls.toArray (.null :: st)) rfl rfl (hb ok.2.1 hd) _ h1, h2⟩
theorem W.cast {D : String} (wl : (Cond.classLink y.cls idx D).before G.a0 G.Z = true) (hd : decode code pc = .ok (.checkcast idx, 3)) (hm : Is G As a C) (hc : C = D ∨ (Cond.castable C D).before G.a0 G.Z = true)
    (nx : W G K y code ret R Q As Li cells slots (pc + 3) Ls (.ref a :: st)) : W G K y code ret R Q As Li cells slots pc Ls (.ref a :: st) := by
  intro T vm0 k0 locs ok X hS hk hN hI hL hF
  have E := hm.exa hI
  have F : Ins G.Z T.heap a D true := hc.elim (fun e => by subst e; exact Ins.self E) (fun q => Ins.of_exa E q)
  obtain ⟨T', X', e', st'⟩ := castY X ok.1 (ok_Z ok hS) (ok_own ok hS) wl rfl F (g := mkF K.m pc Ls.toArray (.ref a :: st)) rfl rfl (hb ok.2.1 hd)
  obtain ⟨U, u, h1, h2⟩ := nx T' vm0 k0 locs ok X' hS (by rw [e']; exact hk) hN (by rw [e']; exact hI) hL hF
  exact ⟨U, u, st' _ h1, h2⟩
theorem W.inst {D : String} (wl : (Cond.classLink y.cls idx D).before G.a0 G.Z = true) (hd : decode code pc = .ok (.instanceof idx, 3)) (hm : Is G As a C) (hc : C = D ∨ (Cond.castable C D).before G.a0 G.Z = true)
    (nx : W G K y code ret R Q As Li cells slots (pc + 3) Ls (.int 1 :: st)) : W G K y code ret R Q As Li cells slots pc Ls (.ref a :: st) := by
  intro T vm0 k0 locs ok X hS hk hN hI hL hF
  have E := hm.exa hI
  have F : Ins G.Z T.heap a D true := hc.elim (fun e => by subst e; exact Ins.self E) (fun q => Ins.of_exa E q)
  obtain ⟨T', X', e', st'⟩ := instY X ok.1 (ok_Z ok hS) (ok_own ok hS) wl rfl F (g := mkF K.m pc Ls.toArray (.ref a :: st)) rfl rfl (hb ok.2.1 hd)
  obtain ⟨U, u, h1, h2⟩ := nx T' vm0 k0 locs ok X' hS (by rw [e']; exact hk) hN (by rw [e']; exact hI) hL hF
  exact ⟨U, u, st' _ h1, h2⟩
theorem W.instNo {D : String} (wl : (Cond.classLink y.cls idx D).before G.a0 G.Z = true) (hd : decode code pc = .ok (.instanceof idx, 3)) (hm : Is G As a C) (hc : ∃ c t, G.Z.vm.findClass C = some c ∧ G.Z.vm.findClass D = some t ∧ G.Z.vm.assignable c t = false)
    (nx : W G K y code ret R Q As Li cells slots (pc + 3) Ls (.int 0 :: st)) : W G K y code ret R Q As Li cells slots pc Ls (.ref a :: st) := by
  intro T vm0 k0 locs ok X hS hk hN hI hL hF
  obtain ⟨T', X', e', st'⟩ := Jvm.RoadKit.instNo X ok.1 (ok_Z ok hS) (ok_own ok hS) wl rfl (hm.exa hI) hc (g := mkF K.m pc Ls.toArray (.ref a :: st)) rfl rfl (hb ok.2.1 hd)
  obtain ⟨U, u, h1, h2⟩ := nx T' vm0 k0 locs ok X' hS (by rw [e']; exact hk) hN (by rw [e']; exact hI) hL hF
  exact ⟨U, u, st' _ h1, h2⟩
theorem W.ldcI {z : Int32} (wl : (Cond.constant y.cls idx z).before G.a0 G.Z = true) (hd : decode code pc = .ok (.ldc idx, 2)) (nx : W G K y code ret R Q As Li cells slots (pc + 2) Ls (.int z :: st)) : W G K y code ret R Q As Li cells slots pc Ls st := by
  intro T vm0 k0 locs ok X hS hk hN hI hL hF
  obtain ⟨U, u, h1, h2⟩ := nx T vm0 k0 locs ok X hS hk hN hI hL hF
  exact ⟨U, u, X.ldcInt ok.1 (ok_own ok hS) (mvT (ok_Z ok hS) wl) (g := mkF K.m pc Ls.toArray st) rfl (hb ok.2.1 hd) _ h1, h2⟩
theorem W.ldcJ {z : Int64} (wl : (Cond.constantLong y.cls idx z).before G.a0 G.Z = true) (hd : decode code pc = .ok (.ldc2_w idx, 3)) (nx : W G K y code ret R Q As Li cells slots (pc + 3) Ls (.long z :: st)) : W G K y code ret R Q As Li cells slots pc Ls st := by
  intro T vm0 k0 locs ok X hS hk hN hI hL hF
  obtain ⟨U, u, h1, h2⟩ := nx T vm0 k0 locs ok X hS hk hN hI hL hF
  exact ⟨U, u, X.ldc2Long ok.1 (ok_own ok hS) (mvT (ok_Z ok hS) wl) (g := mkF K.m pc Ls.toArray st) rfl (hb ok.2.1 hd) _ h1, h2⟩
/-! ### returns -/
theorem W.ret0 {T : State} {vm0 : Vm} {k0 : Nat} {locs : List Loc} (u : Option Value) (X : Stand K.p G.l K.e R (K.s.setVm vm0) K.m K.args K.below K.meth K.c T locs cells slots) (hS : K.s.Since vm0 k0) (hk : k0 ≤ T.heap.size) (hN : G.nw = true → K.s.WarmedH vm0) (hI : Inv G As T.heap) (hL : LI G.Z vm0 Li) (hF : Fr G.Z.heap.size locs)
    (hlk : K.meth.locks = false) (hv : K.meth.sig.returnType = none → u = none) (hq : Q u As Li) (hc : cells ≤ R.cells) (hs : slots ≤ R.slots) {t : State}
    (stp : ∀ fs, (∀ (f : JFrame) (acts : List Action), f.method = K.m → f.locked = none → f.entered = [] → (doReturn K.e (T.setTop f) acts u).1 = T.setFrames fs) → Steps K.p.tables K.e K.below t (T.setFrames fs)) : Fini G K R Q t := by
  obtain ⟨fs, hr, hrun, hended, e1, e2, e3, e4⟩ := X.leaveW hS hk (v := u) hv hlk
  exact ⟨T.setFrames fs, u, stp fs hr, hrun, hended, locs, As, Li, hq, hI, hL.warm X.warmed, hF, ⟨e1, e2, e3, e4.mono hc hs⟩, fun nw => State.WarmedH.trans (t := K.s.setVm vm0) (hN nw) X.warmed⟩
theorem W.vret (hd : decode code pc = .ok (.return_, 1)) (hr : ret = none) (hq : Q none As Li) (hc : cells ≤ R.cells) (hs : slots ≤ R.slots) : W G K y code ret R Q As Li cells slots pc Ls [] := by
  intro T vm0 k0 locs ok X hS hk hN hI hL hF
  obtain ⟨ox, ob, -, -, -, -, ort, olk, -⟩ := ok
  exact W.ret0 none X hS hk hN hI hL hF olk (fun _ => rfl) hq hc hs fun fs h => X.returnOut ox (ort.trans hr) (hb ob hd) h
theorem W.iret {z : Int32} {tt : FieldType} (hd : decode code pc = .ok (.ireturn, 1)) (hr : ret = some tt) (ht : tt = .int ∨ tt = .boolean ∨ tt = .byte ∨ tt = .char ∨ tt = .short) (hn : narrow tt (.int z) = .int z) (hq : Q (some (.int z)) As Li) (hc : cells ≤ R.cells) (hs : slots ≤ R.slots) : W G K y code ret R Q As Li cells slots pc Ls (.int z :: st) := by
  intro T vm0 k0 locs ok X hS hk hN hI hL hF
  obtain ⟨ox, ob, -, -, -, -, ort, olk, -⟩ := ok
  exact W.ret0 (some (.int z)) X hS hk hN hI hL hF olk (fun q => by rw [ort, hr] at q; cases q) hq hc hs fun fs h => retOut X ox (ort.trans hr) hn (Or.inl ⟨rfl, ht, z, rfl⟩) (hb ob hd) h
theorem W.lret {z : Int64} (hd : decode code pc = .ok (.lreturn, 1)) (hr : ret = some .long) (hq : Q (some (.long z)) As Li) (hc : cells ≤ R.cells) (hs : slots ≤ R.slots) : W G K y code ret R Q As Li cells slots pc Ls (.long z :: st) := by
  intro T vm0 k0 locs ok X hS hk hN hI hL hF
  obtain ⟨ox, ob, -, -, -, -, ort, olk, -⟩ := ok
  exact W.ret0 (some (.long z)) X hS hk hN hI hL hF olk (fun q => by rw [ort, hr] at q; cases q) hq hc hs fun fs h => retOut X ox (ort.trans hr) rfl (Or.inr (Or.inl ⟨rfl, rfl, z, rfl⟩)) (hb ob hd) h
theorem W.aret {tt : FieldType} (hd : decode code pc = .ok (.areturn, 1)) (hr : ret = some tt) (ht : tt.isReference = true) (hx : x.isRef = true) (hq : Q (some x) As Li) (hc : cells ≤ R.cells) (hs : slots ≤ R.slots) : W G K y code ret R Q As Li cells slots pc Ls (x :: st) := by
  intro T vm0 k0 locs ok X hS hk hN hI hL hF
  obtain ⟨ox, ob, -, -, -, -, ort, olk, -⟩ := ok
  have hn : narrow tt x = x := by rcases ref_cases hx with rfl | ⟨_, rfl⟩ <;> cases tt <;> rfl
  exact W.ret0 (some x) X hS hk hN hI hL hF olk (fun q => by rw [ort, hr] at q; cases q) hq hc hs fun fs h => retOut X ox (ort.trans hr) hn (Or.inr (Or.inr (Or.inr (Or.inr ⟨rfl, ht, hx⟩)))) (hb ob hd) h
end Laws
end Jvm.Own
namespace Jvm.Own
open Sem ClassFile Op Lib Jvm.Stand Jvm.Free Jvm.LawKit Jvm.RoadKit
/-! ### contracts and calls -/
/-- the contract of y: called with these arguments over this symbolic heap it returns, as Q says -/
def Ct (G : Gx) (ws : List Jvm.Cond) (y : MethodName) (code : ByteArray) (mL : Nat) (ret : Option FieldType) (R : Room) (args : List Value) (As : List Ent) (Li : List LitE) (Q : Qx) : Prop :=
  MetFree G.l y (head1 (Cond.code y code mL ret :: ws) R) (fun a U => a = args.toArray ∧ G.Z.Warmed39 U.vm ∧ Inv G As U.heap ∧ LI G.Z U.vm Li) (fun _ _ below _ _ => FK G below)
    (fun _ U o U' => ∃ (v : Option Value) (L : List Loc) (As' : List Ent) (Li' : List LitE), o = .returned v ∧ Q v As' Li' ∧ Inv G As' U'.heap ∧ LI G.Z U'.vm Li' ∧ Fr G.Z.heap.size L ∧ ReturnedEndW U o U' L R.cells R.slots ∧ (G.nw = true → U.WarmedH U'.vm))
section Calls
variable {G : Gx} {K : Kx} {y : MethodName} {code : ByteArray} {ret : Option FieldType} {R : Room} {Q : Qx} {As As' : List Ent} {Li Li' : List LitE} {cells slots pc pc' : Nat} {Ls Ls' : List Slot} {st st' : List Value}
theorem Ct.intro {ws : List Jvm.Cond} {mL : Nat} {args : List Value} (hp : plainFor y = true) (he : argsToLocals args.toArray mL = Ls.toArray) (hl : Ls.length = mL) (w : ∀ K, W G K y code ret R Q As Li 0 0 0 Ls []) :
    Ct G ws y code mL ret R args As Li Q := by
  refine MetFree.of_bodySF hp hisR ?_
  intro p e s m args' below meth c s₁ Bd hml0 hP hK
  obtain ⟨rfl, hZ, hI, hL⟩ := hP
  have X0 : Stand p G.l e R s m args.toArray below meth c s₁ [] 0 0 := Stand.of_body Bd
  have e0 : s₁.heap = s.heap := by rw [Bd.state]; rfl
  have ok : Ok G (p, e, s, m, args.toArray, below, meth, c) y code Ls.length ret := ⟨Bd.exec, Bd.bytes, hml0.trans hl.symm, hZ, findClass_of_methodNamed Bd.named, (name_of_methodNamed Bd.named Bd.method).1, Bd.returns, Bd.notSynchronized, Bd.named, hK, hI.1⟩
  obtain ⟨U, v, h1, h2, h3, L, A, I, h4, h5, h6, h7, h8, h9⟩ := w (p, e, s, m, args.toArray, below, meth, c) s₁ s.vm s.heap.size [] ok X0 ((State.WarmedH.refl s).since _) (by rw [e0]; exact Nat.le_refl _) (fun _ => State.WarmedH.refl s) (by rw [e0]; exact hI) hL (Fr.nil _)
  refine ⟨U, .returned v, ?_, h2, h3, v, L, A, I, rfl, h4, h5, h6, h7, h8, h9⟩
  have hE : entryFrame m args.toArray mL = mkF m 0 Ls.toArray [] := by
    show ({ method := m, pc := 0, locals := argsToLocals args.toArray mL, stack := [], locked := none } : JFrame) = _
    rw [he]
  rw [hE]
  exact h1
theorem Ct.weaken {ws : List Jvm.Cond} {mL : Nat} {args : List Value} {Q' : Qx} (h : Ct G ws y code mL ret R args As Li Q) (q : ∀ v A L, Q v A L → Q' v A L) : Ct G ws y code mL ret R args As Li Q' :=
  MetFree.mono h (fun _ _ h => h) (fun _ _ _ _ _ h => h) fun _ _ _ _ _ ⟨v, L, A, I, h1, h2, h3⟩ => ⟨v, L, A, I, h1, q _ _ _ h2, h3⟩
variable {z : MethodName} {code' : ByteArray} {ret' : Option FieldType} {R' : Room} {mL' : Nat} {Q' : Qx} {argsL rest : List Value} {idx : Nat} {sg : MethodDescriptor}
/-- what a call by its contract asks ahead and gives behind -/
abbrev PreC (G : Gx) (As : List Ent) (Li : List LitE) (R R' : Room) (as' : Array Value) : Pt → Array Value → Prop :=
  fun A a => a = as' ∧ Inv G As A.U.heap ∧ LI G.Z A.U.vm Li ∧ A.cells + R'.cells ≤ R.cells ∧ A.slots + R'.slots ≤ R.slots
abbrev PostC (G : Gx) (R' : Room) (Q' : Qx) : Pt → Array Value → Option Value → Pt → Prop :=
  fun A _ v B => ∃ (L : List Loc) (As' : List Ent) (Li' : List LitE), Q' v As' Li' ∧ Inv G As' B.U.heap ∧ LI G.Z B.U.vm Li' ∧ Fr G.Z.heap.size L ∧ (G.nw = true → A.U.WarmedH B.U.vm) ∧ B.locs = A.locs ++ L ∧ B.cells = A.cells + R'.cells ∧ B.slots = A.slots + R'.slots
theorem backC {p : Program} {e : Env} {below : List Frame} {s : State} {sargs : Array Value} {len Wt : Nat} (hfk : FK G below) (hC : Ct G [] z code' mL' ret' R' argsL As Li Q') (hZ : G.Z.Warmed39 s.vm) (wc : (Cond.code z code' mL' ret').before G.a0 G.Z = true) (wz : (Cond.initialized z.cls).before G.a0 G.Z = true)
    (hf : R'.frames + 1 ≤ R.frames) (hl : Wt + (mL' + 11) + R'.locals ≤ R.locals) : BackS G.l R p e below s sargs z len Wt (PreC G As Li R R' argsL.toArray) (PostC G R' Q') :=
  BackS.of_freeWG (bytes := code') (maxL := mL') (ret := ret')
    (E := fun _ first o t L k n => k = R'.cells ∧ n = R'.slots ∧ ∃ v, o = .returned v ∧ ∃ As' Li', Q' v As' Li' ∧ Inv G As' t.heap ∧ LI G.Z t.vm Li' ∧ Fr G.Z.heap.size L ∧ (G.nw = true → first.WarmedH t.vm)) hC hf hl
    (fun m meth c A a Y hp => have hU : G.Z.Warmed39 A.U.vm := wtrans hZ Y.warmed
      ⟨by show (Cond.and _ .tt).before a A.U = true; rw [Cond.before_and, mv hU wc]; rfl, mv hU wc, mv hU wz, hp.2.2.2.1, hp.2.2.2.2⟩)
    (fun m meth c A a g mk Y hp => ⟨hp.1, wtrans hZ Y.warmed, hp.2.1, hp.2.2.1⟩) (fun m meth c A a g mk Y _ hg => hfk.call hZ.alike Y.method hg (by rw [State.frames_setTop' _ Y.here.top, Y.tail]))
    (fun _ _ _ _ ⟨v, L, A, I, h1, h2, h3, h4, h5, h6, h7⟩ => ⟨L, _, _, h6, rfl, rfl, v, h1, A, I, h2, h3, h4, h5, h7⟩)
    (fun m meth c A a g mk v t L k n Y hp _ _ ⟨e1, e2, v', e3, A', I', q1, q2, q3, q4, q5⟩ => by cases e3; subst e1 e2; exact ⟨L, A', I', q1, q2, q3, q4, q5, rfl, rfl, rfl⟩)
theorem W.after {T : State} {vm0 : Vm} {k0 : Nat} {locs : List Loc} {len : Nat} {as' : Array Value} (ok : Ok G K y code Ls.length ret) (hS : K.s.Since vm0 k0) (hk : k0 ≤ T.heap.size) (hN : G.nw = true → K.s.WarmedH vm0) (hF : Fr G.Z.heap.size locs)
    {v : Option Value} {vm₁ : Vm} {B : Pt} (hW1 : (K.s.setVm vm0).WarmedH vm₁) (X' : Stand K.p G.l K.e R ((K.s.setVm vm0).setVm B.U.vm) K.m K.args K.below K.meth K.c B.U B.locs B.cells B.slots) (hS' : (K.s.setVm vm0).Since B.U.vm B.U.heap.size) (hg : T.heap.size ≤ B.U.heap.size)
    (hP : PostC G R' Q' ⟨T.setVm vm₁, locs, cells, slots⟩ as' v B) (stp : Steps K.p.tables K.e K.below (T.setTop (mkF K.m pc Ls.toArray st)) (B.U.setTop (mkF K.m (pc + len) Ls.toArray (v.toList ++ rest))))
    (nx : ∀ v As' Li', Q' v As' Li' → W G K y code ret R Q As' Li' (cells + R'.cells) (slots + R'.slots) (pc + len) Ls (v.toList ++ rest)) : Fini G K R Q (T.setTop (mkF K.m pc Ls.toArray st)) := by
  obtain ⟨U, L, c, n⟩ := B
  obtain ⟨L', A', I', q1, q2, q3, q4, q5, e1, e2, e3⟩ := hP
  dsimp only [Pt.U, Pt.locs, Pt.cells, Pt.slots] at *
  subst e1 e2 e3
  obtain ⟨V, u, h1, h2⟩ := nx v A' I' q1 U U.vm U.heap.size _ ok X' (hS.trans hS' (Nat.le_trans hk hg)) (Nat.le_refl _) (fun nw => State.WarmedH.trans (t := T.setVm vm₁) (State.WarmedH.trans (t := K.s.setVm vm0) (hN nw) hW1) (q5 nw)) q2 q3 (Fr.app hF q4)
  exact ⟨V, u, stp.trans h1, h2⟩
/-- the weight of what lies under a call's arguments -/
abbrev wt (rest : List Value) : Nat := (rest.map fun v => v.category).sum
theorem wt_le (rest : List Value) : 2 * (0 : Nat) + (rest.map fun v => v.category).sum ≤ wt rest := by simp [wt]
theorem W.callS (hC : Ct G [] z code' mL' ret' R' argsL As Li Q') (hd : decode code pc = .ok (.invokestatic idx, 3)) (wl : (Cond.methodLink y.cls idx z).before G.a0 G.Z = true) (ws : (Cond.static z).before G.a0 G.Z = true) (wz : (Cond.initialized z.cls).before G.a0 G.Z = true) (wc : (Cond.code z code' mL' ret').before G.a0 G.Z = true)
    (hy : z.cls ≠ "java/lang/invoke/MethodHandle" ∧ z.cls ≠ "java/lang/invoke/VarHandle") (hp : parseMethodDescriptor z.desc = some sg) (hn : argsL.length = sg.parameters.length) (hst : st = argsL.reverse ++ rest)
    (hf : R'.frames + 1 ≤ R.frames) (hl : wt rest + (mL' + 11) + R'.locals ≤ R.locals) (hc : cells + R'.cells ≤ R.cells) (hs : slots + R'.slots ≤ R.slots)
    (nx : ∀ v As' Li', Q' v As' Li' → W G K y code ret R Q As' Li' (cells + R'.cells) (slots + R'.slots) (pc + 3) Ls (v.toList ++ rest)) : W G K y code ret R Q As Li cells slots pc Ls st := by
  intro T vm0 k0 locs ok X hS hk hN hI hL hF
  have hZ := ok_Z ok hS
  obtain ⟨v, vm₁, B, hW1, X', hS', hg, hP, stp⟩ := callSS X ok.1 (ok_own ok hS) (mvT hZ wl) (mvT hZ ws) (mvT hZ wz) (mvT hZ wc) hy (backC (ok_fk ok) hC hZ wc wz hf hl) (g := mkF K.m pc Ls.toArray st) rfl (by rw [ok.2.2.1]; simp) (argsL := argsL) (rest := rest) (fun sig h => by cases hp.symm.trans h; exact hn) hst (wt_le rest) (hb ok.2.1 hd) (fun vm₁ hw => ⟨rfl, hI, hL.warm hw, hc, hs⟩)
  exact W.after ok hS hk hN hF hW1 X' hS' hg hP stp nx
theorem mvMN {Z s : State} {a0 args : Array Value} {own host : String} {idx : Nat} {x : MethodName} (hZ : Z.Warmed39 s.vm) (w : (Cond.methodLinkNest own idx x host).before a0 Z = true) : (Cond.methodLinkNest own idx x host).before args s = true := (Cond.methodLinkNest_wide hZ w :)
theorem W.callSN {host : String} (hC : Ct G [] z code' mL' ret' R' argsL As Li Q') (hd : decode code pc = .ok (.invokestatic idx, 3)) (wl : (Cond.methodLinkNest y.cls idx z host).before G.a0 G.Z = true) (ws : (Cond.static z).before G.a0 G.Z = true) (wz : (Cond.initialized z.cls).before G.a0 G.Z = true) (wc : (Cond.code z code' mL' ret').before G.a0 G.Z = true)
    (hy : z.cls ≠ "java/lang/invoke/MethodHandle" ∧ z.cls ≠ "java/lang/invoke/VarHandle") (hp : parseMethodDescriptor z.desc = some sg) (hn : argsL.length = sg.parameters.length) (hst : st = argsL.reverse ++ rest)
    (hf : R'.frames + 1 ≤ R.frames) (hl : wt rest + (mL' + 11) + R'.locals ≤ R.locals) (hc : cells + R'.cells ≤ R.cells) (hs : slots + R'.slots ≤ R.slots)
    (nx : ∀ v As' Li', Q' v As' Li' → W G K y code ret R Q As' Li' (cells + R'.cells) (slots + R'.slots) (pc + 3) Ls (v.toList ++ rest)) : W G K y code ret R Q As Li cells slots pc Ls st := by
  intro T vm0 k0 locs ok X hS hk hN hI hL hF
  have hZ := ok_Z ok hS
  obtain ⟨v, vm₁, B, hW1, X', hS', hg, hP, stp⟩ := callSNS X ok.1 (ok_own ok hS) (mvMN hZ wl) (mvT hZ ws) (mvT hZ wz) (mvT hZ wc) hy (backC (ok_fk ok) hC hZ wc wz hf hl) (g := mkF K.m pc Ls.toArray st) rfl (by rw [ok.2.2.1]; simp) (argsL := argsL) (rest := rest) (fun sig h => by cases hp.symm.trans h; exact hn) hst (wt_le rest) (hb ok.2.1 hd) (fun vm₁ hw => ⟨rfl, hI, hL.warm hw, hc, hs⟩)
  exact W.after ok hS hk hN hF hW1 X' hS' hg hP stp nx
variable {a : Addr} {C : String}
/-- a constructor -/
theorem W.callI (hC : Ct G [] z code' mL' none R' (.ref a :: argsL) As Li Q') (hd : decode code pc = .ok (.invokespecial idx, 3)) (h1 : z.name = "<init>") (wl : (Cond.methodLink y.cls idx z).before G.a0 G.Z = true) (wi : (Cond.instanceMethod z).before G.a0 G.Z = true) (wz : (Cond.initialized z.cls).before G.a0 G.Z = true) (wc : (Cond.code z code' mL' none).before G.a0 G.Z = true)
    (hy : z.cls ≠ "java/lang/invoke/MethodHandle" ∧ z.cls ≠ "java/lang/invoke/VarHandle") (hp : parseMethodDescriptor z.desc = some sg) (hn : argsL.length = sg.parameters.length) (hst : st = argsL.reverse ++ .ref a :: rest)
    (hf : R'.frames + 1 ≤ R.frames) (hl : wt rest + (mL' + 11) + R'.locals ≤ R.locals) (hc : cells + R'.cells ≤ R.cells) (hs : slots + R'.slots ≤ R.slots)
    (nx : ∀ v As' Li', Q' v As' Li' → W G K y code ret R Q As' Li' (cells + R'.cells) (slots + R'.slots) (pc + 3) Ls (v.toList ++ rest)) : W G K y code ret R Q As Li cells slots pc Ls st := by
  intro T vm0 k0 locs ok X hS hk hN hI hL hF
  have hZ := ok_Z ok hS
  obtain ⟨v, vm₁, B, hW1, X', hS', hg, hP, stp⟩ := X.specialBackS ok.1 h1 (ok_own ok hS) (mvT hZ wl) (mvT hZ wi) (mvT hZ wc) hy (backC (ok_fk ok) hC hZ wc wz hf hl) (g := mkF K.m pc Ls.toArray st) rfl (by rw [ok.2.2.1]; simp) (Steps.refl _) (a := a) (argsL := argsL) (rest := rest) (fun sig h => by cases hp.symm.trans h; exact hn) hst (wt_le rest) (hb ok.2.1 hd) (fun vm₁ hw => ⟨rfl, hI, hL.warm hw, hc, hs⟩)
  exact W.after ok hS hk hN hF hW1 X' hS' hg hP stp nx
theorem W.callIN {host : String} (hC : Ct G [] z code' mL' none R' (.ref a :: argsL) As Li Q') (hd : decode code pc = .ok (.invokespecial idx, 3)) (h1 : z.name = "<init>") (wl : (Cond.methodLinkNest y.cls idx z host).before G.a0 G.Z = true) (wi : (Cond.instanceMethod z).before G.a0 G.Z = true) (wz : (Cond.initialized z.cls).before G.a0 G.Z = true) (wc : (Cond.code z code' mL' none).before G.a0 G.Z = true)
    (hy : z.cls ≠ "java/lang/invoke/MethodHandle" ∧ z.cls ≠ "java/lang/invoke/VarHandle") (hp : parseMethodDescriptor z.desc = some sg) (hn : argsL.length = sg.parameters.length) (hst : st = argsL.reverse ++ .ref a :: rest)
    (hf : R'.frames + 1 ≤ R.frames) (hl : wt rest + (mL' + 11) + R'.locals ≤ R.locals) (hc : cells + R'.cells ≤ R.cells) (hs : slots + R'.slots ≤ R.slots)
    (nx : ∀ v As' Li', Q' v As' Li' → W G K y code ret R Q As' Li' (cells + R'.cells) (slots + R'.slots) (pc + 3) Ls (v.toList ++ rest)) : W G K y code ret R Q As Li cells slots pc Ls st := by
  intro T vm0 k0 locs ok X hS hk hN hI hL hF
  have hZ := ok_Z ok hS
  obtain ⟨v, vm₁, B, hW1, X', hS', hg, hP, stp⟩ := X.specialBackNestS ok.1 h1 (ok_own ok hS) (mvMN hZ wl) (mvT hZ wi) (mvT hZ wc) hy (backC (ok_fk ok) hC hZ wc wz hf hl) (g := mkF K.m pc Ls.toArray st) rfl (by rw [ok.2.2.1]; simp) (Steps.refl _) (a := a) (argsL := argsL) (rest := rest) (fun sig h => by cases hp.symm.trans h; exact hn) hst (wt_le rest) (hb ok.2.1 hd) (fun vm₁ hw => ⟨rfl, hI, hL.warm hw, hc, hs⟩)
  exact W.after ok hS hk hN hF hW1 X' hS' hg hP stp nx
/-- java.lang.Object's -/
theorem W.callO (hd : decode code pc = .ok (.invokespecial idx, 3)) (wl : (Cond.methodLink y.cls idx Lib.objectInit).before G.a0 G.Z = true) (wi : (Cond.instanceMethod Lib.objectInit).before G.a0 G.Z = true) (wc : (Cond.code Lib.objectInit ⟨#[0xb1]⟩ 1 none).before G.a0 G.Z = true)
    (hf : 1 ≤ R.frames) (hl : wt st + 12 ≤ R.locals) (nx : W G K y code ret R Q As Li cells slots (pc + 3) Ls st) : W G K y code ret R Q As Li cells slots pc Ls (.ref a :: st) := by
  intro T vm0 k0 locs ok X hS hk hN hI hL hF
  obtain ⟨T', X', e', st'⟩ := initO X ok.1 (ok_Z ok hS) (ok_own ok hS) wl wi wc rfl (g := mkF K.m pc Ls.toArray (.ref a :: st)) rfl (by rw [ok.2.2.1]; simp) rfl (hb ok.2.1 hd) hf (wt_le st) hl
  obtain ⟨U, u, h1, h2⟩ := nx T' vm0 k0 locs ok X' hS (by rw [e']; exact hk) hN (by rw [e']; exact hI) hL hF
  exact ⟨U, u, st' _ h1, h2⟩
/-- an instance method that the receiver's class selects; the entry's class x declares it -/
theorem W.callV {x : MethodName} (hC : Ct G [] z code' mL' ret' R' (.ref a :: argsL) As Li Q') (hd : decode code pc = .ok (.invokevirtual idx, 3)) (hm : Is G As a C) (wl : (Cond.methodLink y.cls idx x).before G.a0 G.Z = true) (wd : (Cond.declares x).before G.a0 G.Z = true) (nf : ∀ s : State, G.Z.Warmed39 s.vm → NotFace s x) (wsel : (Cond.selects C x z).before G.a0 G.Z = true)
    (wi : (Cond.instanceMethod z).before G.a0 G.Z = true) (wz : (Cond.initialized z.cls).before G.a0 G.Z = true) (wc : (Cond.code z code' mL' ret').before G.a0 G.Z = true)
    (hy : x.cls ≠ "java/lang/invoke/MethodHandle" ∧ x.cls ≠ "java/lang/invoke/VarHandle") (hp : parseMethodDescriptor x.desc = some sg) (hn : argsL.length = sg.parameters.length) (hst : st = argsL.reverse ++ .ref a :: rest)
    (hf : R'.frames + 1 ≤ R.frames) (hl : wt rest + (mL' + 11) + R'.locals ≤ R.locals) (hc : cells + R'.cells ≤ R.cells) (hs : slots + R'.slots ≤ R.slots)
    (nx : ∀ v As' Li', Q' v As' Li' → W G K y code ret R Q As' Li' (cells + R'.cells) (slots + R'.slots) (pc + 3) Ls (v.toList ++ rest)) : W G K y code ret R Q As Li cells slots pc Ls st := by
  intro T vm0 k0 locs ok X hS hk hN hI hL hF
  have hZ := ok_Z ok hS
  obtain ⟨cB, kB, q1, q2, q3⟩ := isOf (T := T) hZ rfl (hm.exa hI)
  obtain ⟨v, vm₁, B, hW1, X', hS', hg, hP, stp⟩ := X.virtualBackS ok.1 (ok_own ok hS) (mvT hZ wl) (mvT hZ wd) (nf _ hZ) (mvT hZ wsel) (mvT hZ wi) hy (backC (ok_fk ok) hC hZ wc wz hf hl) q1 q3 (g := mkF K.m pc Ls.toArray st) rfl (by rw [ok.2.2.1]; simp) (Steps.refl _) (argsL := argsL) (rest := rest) (fun sig h => by cases hp.symm.trans h; exact hn) hst (wt_le rest) (hb ok.2.1 hd) (fun vm₁ hw => ⟨rfl, hI, hL.warm hw, hc, hs⟩)
  exact W.after ok hS hk hN hF hW1 X' hS' hg hP stp nx
theorem nf_sel {x : MethodName} (w : (Cond.selects C x x).before G.a0 G.Z = true) : ∀ s : State, G.Z.Warmed39 s.vm → NotFace s x := fun s hZ => notFace_of_selects (args := #[]) (mvT hZ w)
theorem nf_sup {x : MethodName} {S : String} (w : (Cond.superclass x.cls S).before G.a0 G.Z = true) : ∀ s : State, G.Z.Warmed39 s.vm → NotFace s x := fun s hZ => nf_super (args := #[]) (mvT hZ w)
theorem nf_tp {x : MethodName} (w : (Cond.noSuperclass x.cls).before G.a0 G.Z = true) : ∀ s : State, G.Z.Warmed39 s.vm → NotFace s x := fun s hZ => nf_top (args := #[]) (mvT hZ w)
/-- .. declared above the entry's class -/
theorem W.callU {x : MethodName} {owner : String} (hC : Ct G [] z code' mL' ret' R' (.ref a :: argsL) As Li Q') (hd : decode code pc = .ok (.invokevirtual idx, 3)) (hm : Is G As a C) (wl : (Cond.methodLink y.cls idx x).before G.a0 G.Z = true) (wsm : (Cond.sameMethod x.cls owner x.name x.desc).before G.a0 G.Z = true) (wd : (Cond.declares ⟨owner, x.name, x.desc⟩).before G.a0 G.Z = true) (ho : owner ≠ "java/lang/invoke/MethodHandle" ∧ owner ≠ "java/lang/invoke/VarHandle") (wsel : (Cond.selects C x z).before G.a0 G.Z = true)
    (wi : (Cond.instanceMethod z).before G.a0 G.Z = true) (wz : (Cond.initialized z.cls).before G.a0 G.Z = true) (wc : (Cond.code z code' mL' ret').before G.a0 G.Z = true)
    (hp : parseMethodDescriptor x.desc = some sg) (hn : argsL.length = sg.parameters.length) (hst : st = argsL.reverse ++ .ref a :: rest)
    (hf : R'.frames + 1 ≤ R.frames) (hl : wt rest + (mL' + 11) + R'.locals ≤ R.locals) (hc : cells + R'.cells ≤ R.cells) (hs : slots + R'.slots ≤ R.slots)
    (nx : ∀ v As' Li', Q' v As' Li' → W G K y code ret R Q As' Li' (cells + R'.cells) (slots + R'.slots) (pc + 3) Ls (v.toList ++ rest)) : W G K y code ret R Q As Li cells slots pc Ls st := by
  intro T vm0 k0 locs ok X hS hk hN hI hL hF
  have hZ := ok_Z ok hS
  obtain ⟨cB, kB, q1, q2, q3⟩ := isOf (T := T) hZ rfl (hm.exa hI)
  obtain ⟨v, vm₁, B, hW1, X', hS', hg, hP, stp⟩ := X.virtualBackUpS ok.1 (ok_own ok hS) (mvT hZ wl) (mvT hZ wsm) (mvT hZ wd) ho (mvT hZ wsel) (mvT hZ wi) (backC (ok_fk ok) hC hZ wc wz hf hl) q1 q3 (g := mkF K.m pc Ls.toArray st) rfl (by rw [ok.2.2.1]; simp) (Steps.refl _) (argsL := argsL) (rest := rest) (fun sig h => by cases hp.symm.trans h; exact hn) hst (wt_le rest) (hb ok.2.1 hd) (fun vm₁ hw => ⟨rfl, hI, hL.warm hw, hc, hs⟩)
  exact W.after ok hS hk hN hF hW1 X' hS' hg hP stp nx
/-- through an interface -/
theorem W.callF {x : MethodName} {cnt : Nat} (hC : Ct G [] z code' mL' ret' R' (.ref a :: argsL) As Li Q') (hd : decode code pc = .ok (.invokeinterface idx cnt, 5)) (hm : Is G As a C) (wl : (Cond.methodLink y.cls idx x).before G.a0 G.Z = true) (wd : (Cond.declares x).before G.a0 G.Z = true) (wf : (Cond.interfaceMethod x.cls x.cls x.name x.desc).before G.a0 G.Z = true) (wsel : (Cond.selects C x z).before G.a0 G.Z = true)
    (wi : (Cond.instanceMethod z).before G.a0 G.Z = true) (wp : (Cond.publicMethod z).before G.a0 G.Z = true) (wu : (Cond.unhidden C x.name x.desc).before G.a0 G.Z = true) (wk : (Cond.castable C x.cls).before G.a0 G.Z = true) (wz : (Cond.initialized z.cls).before G.a0 G.Z = true) (wc : (Cond.code z code' mL' ret').before G.a0 G.Z = true)
    (hy : x.cls ≠ "java/lang/invoke/MethodHandle" ∧ x.cls ≠ "java/lang/invoke/VarHandle") (hfa : ((Cond.interfaceMethod x.cls x.cls x.name x.desc).onTables && (Cond.interfaceMethod x.cls x.cls x.name x.desc).keepsFace) = true) (hp : parseMethodDescriptor x.desc = some sg) (hn : argsL.length = sg.parameters.length) (hst : st = argsL.reverse ++ .ref a :: rest)
    (hf : R'.frames + 1 ≤ R.frames) (hl : wt rest + (mL' + 11) + R'.locals ≤ R.locals) (hc : cells + R'.cells ≤ R.cells) (hs : slots + R'.slots ≤ R.slots)
    (nx : ∀ v As' Li', Q' v As' Li' → W G K y code ret R Q As' Li' (cells + R'.cells) (slots + R'.slots) (pc + 5) Ls (v.toList ++ rest)) : W G K y code ret R Q As Li cells slots pc Ls st := by
  intro T vm0 k0 locs ok X hS hk hN hI hL hF
  have hZ := ok_Z ok hS
  obtain ⟨cB, kB, q1, q2, q3⟩ := isOf (T := T) hZ rfl (hm.exa hI)
  obtain ⟨v, vm₁, B, hW1, X', hS', hg, hP, stp⟩ := X.interfaceBackS ok.1 (ok_own ok hS) (mvT hZ wl) (mvT hZ wd) (mvT hZ wf hfa) (mvT hZ wsel) (mvT hZ wi) (mvT hZ wp) (mvT hZ wu) (mvT hZ wk) hy (backC (ok_fk ok) hC hZ wc wz hf hl) q1 q2 q3 (g := mkF K.m pc Ls.toArray st) rfl (by rw [ok.2.2.1]; simp) (Steps.refl _) (argsL := argsL) (rest := rest) (fun sig h => by cases hp.symm.trans h; exact hn) hst (wt_le rest) (hb ok.2.1 hd) (fun vm₁ hw => ⟨rfl, hI, hL.warm hw, hc, hs⟩)
  exact W.after ok hS hk hN hF hW1 X' hS' hg hP stp nx
/-- a private method by invokevirtual -/
theorem W.callP (hC : Ct G [] z code' mL' ret' R' (.ref a :: argsL) As Li Q') (hd : decode code pc = .ok (.invokevirtual idx, 3)) (hm : Is G As a C) (wl : (Cond.methodLink y.cls idx z).before G.a0 G.Z = true) (wi : (Cond.instanceMethod z).before G.a0 G.Z = true) (wsel : (Cond.selects z.cls z z).before G.a0 G.Z = true) (wp : (Cond.privateMethod z).before G.a0 G.Z = true) (wz : (Cond.initialized z.cls).before G.a0 G.Z = true) (wc : (Cond.code z code' mL' ret').before G.a0 G.Z = true)
    (hy : z.cls ≠ "java/lang/invoke/MethodHandle" ∧ z.cls ≠ "java/lang/invoke/VarHandle") (hp : parseMethodDescriptor z.desc = some sg) (hn : argsL.length = sg.parameters.length) (hst : st = argsL.reverse ++ .ref a :: rest)
    (hf : R'.frames + 1 ≤ R.frames) (hl : wt rest + (mL' + 11) + R'.locals ≤ R.locals) (hc : cells + R'.cells ≤ R.cells) (hs : slots + R'.slots ≤ R.slots)
    (nx : ∀ v As' Li', Q' v As' Li' → W G K y code ret R Q As' Li' (cells + R'.cells) (slots + R'.slots) (pc + 3) Ls (v.toList ++ rest)) : W G K y code ret R Q As Li cells slots pc Ls st := by
  intro T vm0 k0 locs ok X hS hk hN hI hL hF
  have hZ := ok_Z ok hS
  obtain ⟨cl, q1, q2⟩ := (hm.exa hI).cell
  obtain ⟨v, vm₁, B, hW1, X', hS', hg, hP, stp⟩ := X.privateBackS ok.1 (ok_own ok hS) (mvT hZ wl) (mvT hZ wi) (mvT hZ wsel) (Cond.privateMethod_at (mvP hZ wp (args := #[]))) (mvT hZ wc) hy (backC (ok_fk ok) hC hZ wc wz hf hl) (g := mkF K.m pc Ls.toArray st) rfl (by rw [ok.2.2.1]; simp) (Steps.refl _) (a := a) q1 q2 (argsL := argsL) (rest := rest) (fun sig h => by cases hp.symm.trans h; exact hn) hst (wt_le rest) (hb ok.2.1 hd) (fun vm₁ hw => ⟨rfl, hI, hL.warm hw, hc, hs⟩)
  exact W.after ok hS hk hN hF hW1 X' hS' hg hP stp nx
/-- super.m(..) -/
theorem W.callX (hC : Ct G [] z code' mL' ret' R' (.ref a :: argsL) As Li Q') (hd : decode code pc = .ok (.invokespecial idx, 3)) (hm : Is G As a C) (wl : (Cond.methodLink y.cls idx z).before G.a0 G.Z = true) (wsm : (Cond.sameMethod z.cls z.cls z.name z.desc).before G.a0 G.Z = true) (wi : (Cond.instanceMethod z).before G.a0 G.Z = true) (wsup : (Cond.superclass y.cls z.cls).before G.a0 G.Z = true) (hni : z.name ≠ "<init>") (wz : (Cond.initialized z.cls).before G.a0 G.Z = true) (wc : (Cond.code z code' mL' ret').before G.a0 G.Z = true)
    (hp : parseMethodDescriptor z.desc = some sg) (hn : argsL.length = sg.parameters.length) (hst : st = argsL.reverse ++ .ref a :: rest)
    (hf : R'.frames + 1 ≤ R.frames) (hl : wt rest + (mL' + 11) + R'.locals ≤ R.locals) (hc : cells + R'.cells ≤ R.cells) (hs : slots + R'.slots ≤ R.slots)
    (nx : ∀ v As' Li', Q' v As' Li' → W G K y code ret R Q As' Li' (cells + R'.cells) (slots + R'.slots) (pc + 3) Ls (v.toList ++ rest)) : W G K y code ret R Q As Li cells slots pc Ls st := by
  intro T vm0 k0 locs ok X hS hk hN hI hL hF
  have hZ := ok_Z ok hS
  obtain ⟨v, vm₁, B, hW1, X', hS', hg, hP, stp⟩ := superBackS X ok.1 hZ (ok_own ok hS) wl wsm wi wsup hni (backC (ok_fk ok) hC hZ wc wz hf hl) rfl (Ins.self (hm.exa hI)) (g := mkF K.m pc Ls.toArray st) rfl (by rw [ok.2.2.1]; simp) wc (argsL := argsL) (rest := rest) (fun sig h => by cases hp.symm.trans h; exact hn) hst (wt_le rest) (hb ok.2.1 hd) (fun vm₁ hw => ⟨rfl, hI, hL.warm hw, hc, hs⟩)
  exact W.after ok hS hk hN hF hW1 X' hS' hg hP stp nx
end Calls
end Jvm.Own
namespace Jvm.Own
open Sem ClassFile Op Lib Jvm.Stand Jvm.Free Jvm.LawKit Jvm.RoadKit
/-! ### the case's start -/
theorem Inv.start (l : Launch) (s : State) (a0 : Array Value) (b : Bool) : Inv (l, s, a0, b) [] s.heap := ⟨⟨Nat.le_refl _, fun _ _ q => q⟩, List.Pairwise.nil, fun _ h => nomatch h⟩
theorem LI.start (s : State) : LI s s.vm [] := ⟨IB.start, (fun _ h => nomatch h), fun _ h => nomatch h⟩
end Jvm.Own
namespace Jvm.Own
open Sem ClassFile Op Lib Bundle Jvm.Stand Jvm.Free Jvm.Free.SB Jvm.Free.SBG Jvm.LawKit Jvm.RoadKit
/-! ### String constants -/
theorem own_fold (xs : List Cell) : ∀ n : Nat, xs.foldl (fun n c => n + c.slots.size) n = n + (xs.map fun c => c.slots.size).sum := by
  induction xs with
  | nil => intro n; simp
  | cons x xs ih => intro n; simp only [List.foldl_cons, List.map_cons, List.sum_cons]; rw [ih]; omega
theorem own_foldA (h : Heap) : h.foldl (fun n c => n + c.slots.size) 0 = (h.toList.map fun c => c.slots.size).sum := by
  rw [← Array.foldl_toList, own_fold]; omega
theorem own_split {h h' : Heap} (E : Ext h h') : h'.toList = h.toList ++ h'.toList.drop h.size := by
  refine List.ext_getElem? fun i => ?_
  by_cases hi : i < h.size
  · rw [List.getElem?_append_left (by simpa using hi), Array.getElem?_toList, Array.getElem?_toList, Array.getElem?_eq_getElem hi]
    exact E.2 i _ (Array.getElem?_eq_getElem hi)
  · rw [List.getElem?_append_right (by simpa using Nat.le_of_not_lt hi), List.getElem?_drop]
    simp only [Array.length_toList]
    congr 1
    omega
theorem own_sums {h h' : Heap} (E : Ext h h') : (h'.toList.map fun c => c.slots.size).sum = (h.toList.map fun c => c.slots.size).sum + ((h'.toList.drop h.size).map fun c => c.slots.size).sum := by
  conv => lhs; rw [own_split E]
  simp
/-- the invocation, told as if it had begun at the case's own heap -/
abbrev rebS0 (G : Gx) (s : State) (vm0 : Vm) : State := { s with vm := vm0, heap := G.Z.heap, slotsUsed := (G.Z.heap.toList.map fun c => c.slots.size).sum }
theorem rebase {G : Gx} {p : Program} {l : Launch} {e : Env} {R : Room} {s : State} {vm0 : Vm} {m : MethodId} {args : Array Value} {below : List Frame} {meth : Method} {c : Code} {T : State} {locs : List Loc} {cells slots : Nat}
    (X : Stand p l e R (s.setVm vm0) m args below meth c T locs cells slots) (E : Ext G.Z.heap T.heap) (hc : cells ≤ R.cells) (hs : slots ≤ R.slots) :
    Stand p l e { R with cells := (T.heap.size - G.Z.heap.size) + (R.cells - cells), slots := ((T.heap.toList.drop G.Z.heap.size).map fun c => c.slots.size).sum + (R.slots - slots) } (rebS0 G s vm0) m args below meth c T [] (T.heap.size - G.Z.heap.size) ((T.heap.toList.drop G.Z.heap.size).map fun c => c.slots.size).sum := by
  have bk : T.slotsUsed = (T.heap.toList.map fun c => c.slots.size).sum := by
    have h := X.book
    simp only [State.slotsTrue, beq_iff_eq] at h
    rw [h]; exact own_foldA _
  have sm := own_sums E
  have h1 := X.heapSize
  have h2 := X.used
  have hE := E.1
  refine ⟨X.admits, X.cas, X.clock, X.frames, ?_, X.hears, X.method, X.code, X.here, X.tail, X.warmed, X.limits, X.bytes, X.same.1, hE, ?_, ?_, Nat.le_refl _, fun a c h => ⟨c, E.2 a c h, rfl, rfl, fun _ _ => rfl⟩⟩
  · have h := X.room
    simp only [State.hasRoom, Bool.and_eq_true, decide_eq_true_eq] at h ⊢
    obtain ⟨⟨⟨⟨r1, r2⟩, r3⟩, r4⟩, r5⟩ := h
    have r3' : s.heap.size + R.cells ≤ e.platform.maxCells := r3
    have r4' : s.slotsUsed + R.slots ≤ e.platform.maxSlots := r4
    have h1' : T.heap.size ≤ s.heap.size + cells := h1
    have h2' : T.slotsUsed ≤ s.slotsUsed + slots := h2
    refine ⟨⟨⟨⟨r1, r2⟩, ?_⟩, ?_⟩, ?_⟩
    · show G.Z.heap.size + ((T.heap.size - G.Z.heap.size) + (R.cells - cells)) ≤ e.platform.maxCells
      omega
    · show (G.Z.heap.toList.map fun c => c.slots.size).sum + (((T.heap.toList.drop G.Z.heap.size).map fun c => c.slots.size).sum + (R.slots - slots)) ≤ e.platform.maxSlots
      omega
    · show (_ == _) = true
      rw [beq_iff_eq]
      exact (own_foldA _).symm
  · show T.heap.size ≤ G.Z.heap.size + (T.heap.size - G.Z.heap.size)
    omega
  · show T.slotsUsed = (G.Z.heap.toList.map fun c => c.slots.size).sum + _
    rw [bk, sm]; rfl
def litF : List Fd := [("java/lang/String", "value", "[B"), ("java/lang/String", "coder", "B")]
section Laws
variable {G : Gx} {K : Kx} {y : MethodName} {code : ByteArray} {ret : Option FieldType} {R : Room} {Q : Qx} {As As' : List Ent} {Li Li' : List LitE} {cells slots pc pc' : Nat} {Ls Ls' : List Slot} {st st' : List Value} {idx : Nat} {a : Addr}
theorem W.ldcA {text : String} (hd : decode code pc = .ok (.ldc idx, 2)) (w : (Cond.stringLink y.cls idx text).before G.a0 G.Z = true) (hl : (y.cls, idx, text, a) ∈ Li)
    (nx : W G K y code ret R Q As Li cells slots (pc + 2) Ls (.ref a :: st)) : W G K y code ret R Q As Li cells slots pc Ls st := by
  intro T vm0 k0 locs ok X hS hk hN hI hL hF
  obtain ⟨U, u, h1, h2⟩ := nx T vm0 k0 locs ok X hS hk hN hI hL hF
  exact ⟨U, u, ldcAgain X ok.1 (ok_Z ok hS) (ok_own ok hS) w (hL.2.1 _ hl) (g := mkF K.m pc Ls.toArray st) rfl (hb ok.2.1 hd) _ h1, h2⟩
/-- where an interned text of the walk's lies -/
theorem LI.where_ {Z : State} {vm : Vm} {Li : List LitE} {text : String} (L : LI Z vm Li) {units : Array UInt16} {a : Addr} (hu : utf16ToString? units = some text) (hf : vm.interned.find? (fun p => p.1 == units) = some (units, a)) :
    (∃ r ∈ Li, r.2.2.1 = text ∧ r.2.2.2 = a) ∨ Z.vm.interned.find? (fun p => p.1 == units) = some (units, a) := by
  by_cases hm : text ∈ Li.map fun q => q.2.2.1
  · obtain ⟨q, hq, e⟩ := List.mem_map.mp hm
    obtain rfl : q.2.2.1 = text := e
    exact L.2.2 q hq units a hu hf
  · obtain ⟨more, e, hx⟩ := L.1
    rw [e, Array.find?_append] at hf
    cases hs : Z.vm.interned.find? (fun p => p.1 == units) with
    | some pr => rw [hs] at hf; exact Or.inr (by simpa using hf)
    | none =>
      rw [hs, Option.none_or] at hf
      obtain ⟨t, ht, hd⟩ := hx _ (Array.mem_of_find?_eq_some hf)
      cases hu.symm.trans hd
      exact absurd ht hm
/-- the constants of that text that the walk has loaded: each is here, and its signs are vs -/
def LitG (As : List Ent) (Li : List LitE) (text : String) (vs : List Value) : Prop := ∀ q ∈ Li, q.2.2.1 = text → ∃ b, (q.2.2.2, false, obj "java/lang/String" litF [.ref b, .int 0]) ∈ As ∧ (b, false, arr .byte vs) ∈ As
/-- a String as the VM lays one, told in the walk's words -/
theorem sl_des {G : Gx} {U : State} {q : SQ} {cS : ClassId} {units : Array UInt16} {text : String} {vs : List Value} (hal : G.Z.vm.Alike U.vm) (S : Sl q cS U) (hk : ∃ kS : Class, U.vm.classes[cS]? = some kS ∧ kS.kind = .ordinary ∧ q.sC.slots.size = kS.instanceTypes.size)
    (hB' : U.vm.findClass "[B" = some q.SA.cls) (hbyt : q.SA.slots = stringBytes units) (htext : utf16ToString? units = some text) (ht : (∀ c ∈ text.toList, c.toNat < 256) ∧ text.toList.map (fun c => Value.int (Jvm.Lit.byteI c.toNat.toUInt16)) = vs) :
    Des G.Z G.a0 U.heap q.sa false (obj "java/lang/String" litF [.ref q.sd, .int 0]) ∧ Des G.Z G.a0 U.heap q.sd false (arr .byte vs) := by
  obtain ⟨⟨s1, s2, s3, ⟨cv, kv, iv, s4, s4'⟩, ⟨cc, kc, ic, s5, s5'⟩, s6, s7, s8, s9, s10, s11, s12, s13, s14, s15, s16⟩, hfS, hcS⟩ := S
  obtain ⟨kS, k1, k2, k3⟩ := hk
  obtain ⟨kv', z4⟩ := ff_back hal s4
  obtain ⟨kc', z5⟩ := ff_back hal s5
  have hfZ : G.Z.vm.findClass "java/lang/String" = some q.sC.cls := by rw [← hal.findClass, hcS]; exact hfS
  obtain ⟨kz, hkz, -⟩ := Vm.findClass_spec hfZ
  obtain ⟨kz', hkz', ekz⟩ := hal.2.2 _ _ hkz
  have ekS : kz' = kS := Option.some.inj (hkz'.symm.trans (hcS ▸ k1))
  have hBZ : G.Z.vm.findClass "[B" = some q.SA.cls := by rw [← hal.findClass]; exact hB'
  obtain ⟨kb, hkb, -⟩ := Vm.findClass_spec hBZ
  obtain ⟨kb', hkb', ekb⟩ := hal.2.2 _ _ hkb
  obtain ⟨hst, k9, hk9, comp, hkind9⟩ := s11
  have ek9 : k9 = kb' := Option.some.inj (hk9.symm.trans hkb')
  have hAZ : G.Z.isArrayOf q.SA .byte := ⟨hst, kb, hkb, comp, by rw [ek9, ekb] at hkind9; exact hkind9⟩
  have hlat := Jvm.ClassFile.lat_of_text htext ht.1
  have eu : vs = units.toList.map fun u => Value.int (Jvm.Lit.byteI u) := by rw [← ht.2, Jvm.ClassFile.units_of_text htext ht.1, List.map_map]; rfl
  have hsl0 : q.SA.slots = units.map fun u => Value.int (Jvm.Lit.byteI u) := by rw [hbyt, SBG.stringBytes_lat hlat]; rfl
  have hsl : q.SA.slots.toList = vs := by rw [hsl0, eu, Array.toList_map]
  refine ⟨⟨⟨q.sC, kz, s1, hfZ, hkz, s3, fun ho => by rw [k3, ← ekS, ekz]⟩, rfl, fun i f v hf hv => ?_, fun q => nomatch q⟩, ?_⟩
  · match i, hf, hv with
    | 0, hf, hv => cases hf; cases hv; exact ⟨q.sC, cv, kv', iv, q.fSV, s1, z4, s6, s2, s3, by rw [← hal.assignable]; exact s4', s8⟩
    | 1, hf, hv => cases hf; cases hv; exact ⟨q.sC, cc, kc', ic, q.fSC, s1, z5, s7, s2, s3, by rw [← hal.assignable]; exact s5', s9⟩
  · refine ⟨q.SA, ⟨s10, hAZ, s12⟩, hsl, ?_, fun v hv => ?_, fun q => nomatch q⟩
    · rw [← hsl]; simpa [s13] using s14
    · rw [← hsl] at hv
      obtain ⟨i, hi, rfl⟩ := List.getElem_of_mem hv
      have hi' : i < q.SA.slots.size := by simpa using hi
      have := s16 i hi'
      rw [Array.getD_eq_getD_getElem?, Array.getElem?_eq_getElem hi'] at this
      simpa using this
/-- two cells that the walk doesn't own come to its list -/
theorem Inv.two {G : Gx} {As : List Ent} {h : Heap} {a b : Addr} {sc sc' : SC} (I : Inv G As h) (D1 : Des G.Z G.a0 h a false sc) (D2 : Des G.Z G.a0 h b false sc') (far : ∀ e ∈ As, e.2.1 = true → a ≠ e.1 ∧ b ≠ e.1) : Inv G ((a, false, sc) :: (b, false, sc') :: As) h := by
  refine ⟨I.1, ?_, fun e he => ?_⟩
  · refine List.pairwise_cons.mpr ⟨fun p hp hw => ?_, List.pairwise_cons.mpr ⟨fun p hp hw => ?_, I.2.1⟩⟩
    · rcases List.mem_cons.mp hp with rfl | hp
      · rcases hw with hw | hw <;> cases hw
      · obtain ⟨e, he, rfl⟩ := List.mem_map.mp hp
        rcases hw with hw | hw
        · cases hw
        · exact (far e he hw).1
    · obtain ⟨e, he, rfl⟩ := List.mem_map.mp hp
      rcases hw with hw | hw
      · cases hw
      · exact (far e he hw).2
  · rcases List.mem_cons.mp he with rfl | he
    · exact ⟨(fun q => nomatch q), D1⟩
    · rcases List.mem_cons.mp he with rfl | he
      · exact ⟨(fun q => nomatch q), D2⟩
      · exact I.2.2 e he
/-- a frozen cell of the list is none that the walk writes -/
theorem Inv.farF {G : Gx} {As : List Ent} {h : Heap} {a : Addr} {sc : SC} (I : Inv G As h) (hm : (a, false, sc) ∈ As) : ∀ e ∈ As, e.2.1 = true → a ≠ e.1 := fun e he hw => by
  obtain ⟨i, hi, ei⟩ := List.getElem_of_mem hm
  obtain ⟨j, hj, ej⟩ := List.getElem_of_mem he
  obtain ⟨ea, ew, es⟩ := e
  simp only at hw
  subst hw
  rcases Nat.lt_trichotomy i j with q | q | q
  · exact I.ne (by rw [List.getElem?_eq_getElem hi, ei]) (by rw [List.getElem?_eq_getElem hj, ej]) q (Or.inr rfl)
  · subst q; rw [ei] at ej; cases ej
  · exact (I.ne (by rw [List.getElem?_eq_getElem hj, ej]) (by rw [List.getElem?_eq_getElem hi, ei]) q (Or.inl rfl)).symm
/-- 'ldc' of a String constant: whatever has been loaded before, from whatever entry -/
theorem W.ldcG {text : String} {vs : List Value} {n : Nat} (hnw : G.nw = false) (hd : decode code pc = .ok (.ldc idx, 2)) (w : (Cond.stringLink y.cls idx text).before G.a0 G.Z = true) (wS : ∀ a ∈ Bundle.stringAtoms, a.before G.a0 G.Z = true)
    (hh : Jvm.Lit.constHeld G.Z y.cls idx) (hcw : Jvm.Lit.compactW.before G.a0 G.Z = true) (hlit : LitG As Li text vs) (ht : (∀ c ∈ text.toList, c.toNat < 256) ∧ text.toList.map (fun c => Value.int (Jvm.Lit.byteI c.toNat.toUInt16)) = vs)
    (hn : 4 * text.toList.length ≤ n) (hbig : n ≤ 536870912) (hc : cells + 2 ≤ R.cells) (hs : slots + (n + 4) ≤ R.slots)
    (nx : ∀ a b, W G K y code ret R Q ((a, false, obj "java/lang/String" litF [.ref b, .int 0]) :: (b, false, arr .byte vs) :: As) ((y.cls, idx, text, a) :: Li) (cells + 2) (slots + (n + 4)) (pc + 2) Ls (.ref a :: st)) : W G K y code ret R Q As Li cells slots pc Ls st := by
  intro T vmA kA locs ok XA hSA hkA hN hI hLA hF
  -- the tables as they stand here are the base
  have hZA : G.Z.Warmed39 vmA := ok_Z ok hSA
  have X : Stand K.p G.l K.e R (K.s.setVm T.vm) K.m K.args K.below K.meth K.c T locs cells slots := XA.retabled XA.warmed.wide
  have hS : K.s.Since T.vm T.heap.size := hSA.trans (XA.warmed.since _) hkA
  have hL : LI G.Z T.vm Li := hLA.warm XA.warmed
  have hZ : G.Z.Warmed39 T.vm := State.Warmed39.trans (t := K.s.setVm vmA) hZA XA.warmed.wide
  have hal := hZ.alike
  have E0 := hI.old
  have wi : (Cond.instantiable "java/lang/String" 4).before G.a0 G.Z = true := wS _ (by simp [Bundle.stringAtoms, Bundle.sN])
  have wa : (Cond.arrayClass .byte).before G.a0 G.Z = true := wS _ (by simp [Bundle.stringAtoms])
  have hownT : T.vm.findClass y.cls = some K.m.cls := by rw [XA.warmed.alike.findClass]; exact ok_own ok hSA
  have hownZ : G.Z.vm.findClass y.cls = some K.m.cls := by rw [← hal.findClass]; exact hownT
  obtain ⟨k, cf, i, units, hk, hcf, hcp, hu, hnm, htext, hres⟩ := Cond.stringLink_spec hownZ w
  obtain ⟨k', hk', hke, hx2, ee, hx3⟩ := hZ.2.2.2 _ k hk
  have hcf' : k'.cf = some cf := by rw [hke]; exact hcf
  have hH : ConstHeldL G.Z y.cls idx := heldStart hh w ht.1 hcw wa wi
  have oldgood : ∀ a, SlOf G.Z a units → ∃ b, Des G.Z G.a0 T.heap a false (obj "java/lang/String" litF [.ref b, .int 0]) ∧ Des G.Z G.a0 T.heap b false (arr .byte vs) ∧ ∀ e ∈ As, e.2.1 = true → a ≠ e.1 ∧ b ≠ e.1 := fun a hso => by
    obtain ⟨q, cS, hqa, hSl, hkS, hB, hbyt⟩ := hso
    subst hqa
    obtain ⟨D1, D2⟩ := sl_des (G := G) (U := G.Z) (vs := vs) ⟨rfl, rfl, fun c k h => ⟨k, h, by first | rfl | exact ⟨rfl, rfl⟩⟩⟩ hSl hkS hB hbyt htext ht
    have g1 := D1.lt
    have g2 := D2.lt
    refine ⟨q.sd, D1.cell (fun c h => E0.2 _ c h), D2.cell (fun c h => E0.2 _ c h), fun e he hw => ?_⟩
    have g3 := (hI.2.2 e he).1 hw
    exact ⟨Nat.ne_of_lt (Nat.lt_of_lt_of_le g1 g3), Nat.ne_of_lt (Nat.lt_of_lt_of_le g2 g3)⟩
  have good : ∀ a, T.vm.interned.find? (fun p => p.1 == units) = some (units, a) → k.resolved[idx]? = some none → ∃ b, Des G.Z G.a0 T.heap a false (obj "java/lang/String" litF [.ref b, .int 0]) ∧ Des G.Z G.a0 T.heap b false (arr .byte vs) ∧ ∀ e ∈ As, e.2.1 = true → a ≠ e.1 ∧ b ≠ e.1 := fun a hf hr => by
    rcases hL.where_ htext hf with ⟨r, hr1, hr2, hr3⟩ | hZf
    · obtain ⟨b, hb1, hb2⟩ := hlit r hr1 hr2
      rw [hr3] at hb1
      exact ⟨b, (hI.2.2 _ hb1).2, (hI.2.2 _ hb2).2, fun e he hw => ⟨hI.farF hb1 e he hw, hI.farF hb2 e he hw⟩⟩
    · exact oldgood a (hH _ k cf i units a hownZ hk hcf hcp hu (Or.inr ⟨hr, hZf⟩))
  -- the list of constants, one longer, the table of texts being as it was
  have third : ∀ a, ∀ q ∈ (y.cls, idx, text, a) :: Li, ∀ (us : Array UInt16) (x : Addr), utf16ToString? us = some q.2.2.1 → T.vm.interned.find? (fun p => p.1 == us) = some (us, x) → (∃ r ∈ (y.cls, idx, text, a) :: Li, r.2.2.1 = q.2.2.1 ∧ r.2.2.2 = x) ∨ G.Z.vm.interned.find? (fun p => p.1 == us) = some (us, x) := fun a q hq us x hus hf =>
    (hL.where_ hus hf).imp (fun ⟨r, h1, h2⟩ => ⟨r, List.mem_cons_of_mem _ h1, h2⟩) id
  have resd : ∀ a, k'.resolved[idx]? = some (some (.string a)) → ∃ b, Des G.Z G.a0 T.heap a false (obj "java/lang/String" litF [.ref b, .int 0]) ∧ Des G.Z G.a0 T.heap b false (arr .byte vs) ∧ ∀ e ∈ As, e.2.1 = true → a ≠ e.1 ∧ b ≠ e.1 := fun a h0 => by
    rcases ee idx with e0 | ⟨hop, r, e1, hr | ⟨a3, t, si, us, rfl, -, q3, q4, q5⟩⟩
    · exact oldgood a (hH _ k cf i units a hownZ hk hcf hcp hu (Or.inl (e0 ▸ h0)))
    · exfalso
      cases r <;> simp [State.rightAt, hk, hcf, hnm] at hr
    · rw [hcf] at q3 q4
      have e3 : si = i := by
        have := q3.symm.trans hcp
        simpa using this
      subst e3
      have e4 : us = units := by simpa [ConstantPool.utf8?, hu] using q4.symm
      subst e4
      have e5 : a3 = a := by
        have := e1.symm.trans h0
        simpa using this
      subst e5
      exact good a3 q5 hop
  have isopen : (∃ a, k'.resolved[idx]? = some (some (.string a))) ∨ (k'.resolved[idx]? = some none ∧ k.resolved[idx]? = some none) := by
    rcases ee idx with e0 | ⟨hop, r, e1, hr | ⟨a3, t, si, us, rfl, -⟩⟩
    · rcases hres with h0 | ⟨a, h0⟩
      · exact Or.inr ⟨e0.trans h0, h0⟩
      · exact Or.inl ⟨a, e0.trans h0⟩
    · exfalso
      cases r <;> simp [State.rightAt, hk, hcf, hnm] at hr
    · exact Or.inl ⟨a3, e1⟩
  rcases isopen with ⟨a, h0⟩ | ⟨hopen, hopen0⟩
  · -- it was loaded before
    obtain ⟨b, D1, D2, far⟩ := resd a h0
    have hlit' : RoadKit.Lit (K.s.setVm T.vm) y.cls idx a := by
      show State.resolvedAt? (K.s.setVm T.vm) y.cls idx = _
      simp [State.resolvedAt?, State.setVm, hownT, hk', h0]
    obtain ⟨U, u, g1, g2⟩ := nx a b T T.vm T.heap.size locs ok (X.more (Nat.le_add_right _ _) (Nat.le_add_right _ _)) hS (Nat.le_refl _) (fun q => by rw [hnw] at q; cases q) (hI.two D1 D2 far) ⟨hL.1.step (Or.inl rfl), fun r hr => by
      rcases List.mem_cons.mp hr with rfl | hr
      · exact hlit'
      · exact hL.2.1 r hr, third a⟩ hF
    exact ⟨U, u, ldcAgain X ok.1 hZ hownT w hlit' (g := mkF K.m pc Ls.toArray st) rfl (hb ok.2.1 hd) _ g1, g2⟩
  have q2 : k'.cf.bind (namesOf? ·.constantPool idx) = some (.string text) := by rw [hcf']; exact hnm
  have q3 : k'.cf.bind (·.constantPool[idx]?) = some (.string i) := by rw [hcf']; exact hcp
  have q4 : k'.cf.bind (·.constantPool.utf8? i) = some units := by rw [hcf']; simp [ConstantPool.utf8?, hu]
  cases hf : T.vm.interned.find? (fun p => p.1 == units) with
  | some pr =>
    obtain ⟨u', a⟩ := pr
    have hu' : u' = units := by
      have := Array.find?_some hf
      simpa using this
    subst hu'
    obtain ⟨b, D1, D2, far⟩ := good a hf hopen0
    have hW : (K.s.setVm T.vm).Warmed39 (T.vm.noted K.m.cls idx (.string a)) := (State.Warmed39.refl (K.s.setVm T.vm)).notedString hk' (Or.inl hopen) q2 q3 q4 hf
    have X2 := (X.more (cells := cells) (slots := slots) (Nat.le_add_right cells 2) (Nat.le_add_right slots (n + 4))).retabled hW
    have hB : (K.s.setVm T.vm).Booked (T.vm.noted K.m.cls idx (.string a)) T.heap.size := State.Booked.step (T := T) (T₂ := T.setVm (T.vm.noted K.m.cls idx (.string a))) (X.warmed.no_new_pair _) X.same.2.1 ⟨Nat.le_refl _, Or.inl rfl⟩
    have hS2 : K.s.Since (T.vm.noted K.m.cls idx (.string a)) T.heap.size := hS.trans ⟨hW, hB⟩ (Nat.le_refl _)
    have hk2 : (T.vm.noted K.m.cls idx (.string a)).classes[K.m.cls]? = some _ := Vm.classes_note_self idx (.string a) hk'
    have hr2 := Class.resolved_note_self (k := k') (.string a) hopen
    have hlit' : RoadKit.Lit (K.s.setVm (T.vm.noted K.m.cls idx (.string a))) y.cls idx a := by
      have hf2 : (T.vm.noted K.m.cls idx (.string a)).findClass y.cls = some K.m.cls := by rw [hW.alike.findClass]; exact hownT
      show State.resolvedAt? (K.s.setVm _) y.cls idx = _
      simp [State.resolvedAt?, State.setVm, hf2, hk2, hr2]
    obtain ⟨U, u, g1, g2⟩ := nx a b (T.setVm (T.vm.noted K.m.cls idx (.string a))) (T.vm.noted K.m.cls idx (.string a)) T.heap.size locs ok X2 hS2 (Nat.le_refl _) (fun q => by rw [hnw] at q; cases q) (hI.two D1 D2 far) ⟨hL.1.step (Or.inl rfl), fun r hr => by
      rcases List.mem_cons.mp hr with rfl | hr
      · exact hlit'
      · exact Lit.stays (s := K.s) (hL.2.1 r hr) hW, third a⟩ hF
    refine ⟨U, u, ?_, g2⟩
    have hdg : decode K.c.code (mkF K.m pc Ls.toArray st).pc = .ok (.ldc idx, 2) := hb ok.2.1 hd
    have hexec := ok.1
    jvm_step X.here [hexec, hdg, ldc.wp_string_found (e := K.e) (s := T) (f := mkF K.m pc Ls.toArray st) X.here.top hk' hcf' hcp hu hopen hf]
    exact g1
  | none =>
    have Y := rebase X E0 (by omega) (by omega)
    have hHL : ConstHeldL ((rebS0 G K.s T.vm).setVm T.vm) y.cls idx := fun c2 k2 cf2 i2 us2 a2 r1 r2 r3 r4 r5 r6 => by
      exfalso
      cases (show T.vm.findClass y.cls = some c2 from r1).symm.trans hownT
      cases (show T.vm.classes[K.m.cls]? = some k2 from r2).symm.trans hk'
      cases r3.symm.trans hcf'
      cases r4.symm.trans hcp
      cases r5.symm.trans hu
      rcases r6 with r6 | ⟨-, r6⟩
      · rw [hopen] at r6; cases r6
      · rw [show ((rebS0 G K.s T.vm).setVm T.vm).vm.interned.find? (fun p => p.1 == units) = none from hf] at r6; cases r6
    obtain ⟨a, T', Y', hS', ⟨kk, hkk, hrr⟩, hb', h1', hint, ⟨units', htext', hin⟩, st'⟩ := Y.ldcColdF (fun b cl h => E0.2 b cl h) ok.1 (own := y.cls) (text := text) (index := idx) hownT
      (mvS (s := rebS0 G K.s T.vm) hZ w) (fun d hd => by
        have q := wS d hd
        simp only [Bundle.stringAtoms, List.mem_cons, List.not_mem_nil, or_false] at hd
        rcases hd with rfl | rfl | rfl | rfl | rfl | rfl | rfl
        · exact mv (s := rebS0 G K.s T.vm) hZ q
        · exact mv (s := rebS0 G K.s T.vm) hZ q
        · exact mvA (s := rebS0 G K.s T.vm) hZ q
        · exact mv (s := rebS0 G K.s T.vm) hZ q
        · exact mv (s := rebS0 G K.s T.vm) hZ q
        · exact mv (s := rebS0 G K.s T.vm) hZ q
        · exact mv (s := rebS0 G K.s T.vm) hZ q) hHL (fun units hu => Jvm.ClassFile.lat_of_text hu ht.1) (g := mkF K.m pc Ls.toArray st) rfl (hb ok.2.1 hd) hn hbig (by show _ + 2 ≤ _ + _; omega) (by show _ + _ ≤ _ + _; omega)
    have euu : units' = units := Array.toList_inj.mp (by rw [Jvm.ClassFile.units_of_text htext' ht.1, Jvm.ClassFile.units_of_text htext ht.1])
    subst euu
    have hal' : G.Z.vm.Alike T'.vm := (State.Warmed39.trans (t := rebS0 G K.s T.vm) hZ hS'.1).alike
    have E : Ext T.heap T'.heap := ext_of hb'
    have hW0 : (K.s.setVm T.vm).Warmed39 T'.vm := hS'.1
    have X1 := X.retabled hW0
    have hsz : T'.heap.size ≤ T.heap.size + 2 := by
      have q := Y'.heapSize
      have q' : T'.heap.size ≤ G.Z.heap.size + ((T.heap.size - G.Z.heap.size) + 2) := q
      have := E0.1
      omega
    have sm0 := own_sums E0
    have sm1 := own_sums E
    have sm2 := own_sums (h := G.Z.heap) (h' := T'.heap) ⟨Nat.le_trans E0.1 E.1, fun x c q => E.2 x c (E0.2 x c q)⟩
    have bk : T.slotsUsed = (T.heap.toList.map fun c => c.slots.size).sum := by
      have h := X.book
      simp only [State.slotsTrue, beq_iff_eq] at h
      rw [h]; exact own_foldA _
    have bk' : T'.slotsUsed = (T'.heap.toList.map fun c => c.slots.size).sum := by
      have h := Y'.book
      simp only [State.slotsTrue, beq_iff_eq] at h
      rw [h]; exact own_foldA _
    have hsame : (T.setVm T'.vm).sameButNew (T'.setVm T'.vm) [] 2 (n + 4) := by
      have q1 := Y'.same
      have q0 := X.same
      refine ⟨?_, E.1, hsz, ?_, ?_, fun a c h => ⟨c, E.2 a c h, rfl, rfl, fun _ _ => rfl⟩⟩
      · have e1 : T' = ({ (K.s.setVm T.vm).setFrames T'.frames with heap := T'.heap, slotsUsed := T'.slotsUsed } : State).setVm T'.vm := by
          have h := congrArg (fun s : State => s.setVm T'.vm) q1.1
          exact h
        have e0 : T = ({ (K.s.setVm T.vm).setFrames T.frames with heap := T.heap, slotsUsed := T.slotsUsed } : State).setVm T.vm := by
          have h := congrArg (fun s : State => s.setVm T.vm) q0.1
          exact h
        have e2 : (T.setVm T'.vm).setFrames T'.frames = ({ (K.s.setVm T.vm).setFrames T'.frames with heap := T.heap, slotsUsed := T.slotsUsed } : State).setVm T'.vm := by
          have e3 : (T.setVm T'.vm).setFrames T'.frames = ((({ (K.s.setVm T.vm).setFrames T.frames with heap := T.heap, slotsUsed := T.slotsUsed } : State).setVm T.vm).setVm T'.vm).setFrames T'.frames := by rw [← e0]
          rw [e3]
          show ({ ((K.s.setVm T.vm).setFrames T.frames).setFrames T'.frames with heap := T.heap, slotsUsed := T.slotsUsed, vm := T'.vm } : State) = _
          rw [State.setFrames_setFrames]
          rfl
        show T' = { (T.setVm T'.vm).setFrames T'.frames with heap := T'.heap, slotsUsed := T'.slotsUsed }
        rw [e2]
        exact e1
      · show T'.slotsUsed = T.slotsUsed + _
        rw [bk, bk']; exact sm1
      · have q : ((T'.heap.toList.drop G.Z.heap.size).map fun c => c.slots.size).sum ≤ ((T.heap.toList.drop G.Z.heap.size).map fun c => c.slots.size).sum + (n + 4) := q1.2.2.2.2.1
        show ((T'.heap.toList.drop T.heap.size).map fun c => c.slots.size).sum ≤ n + 4
        omega
    have X2 := X1.moved (T₂ := T') Y'.here Y'.tail (Y'.limits.trans X.limits.symm) (Y'.bytes.trans X.bytes.symm) (State.WarmedH.refl _) hsame
    rw [List.append_nil] at X2
    have hB : (K.s.setVm T.vm).Booked T'.vm T'.heap.size := State.Booked.step (X.warmed.no_new_pair _) X.same.2.1 h1'
    have hSn : K.s.Since T'.vm T'.heap.size := hS.trans ⟨hW0, hB⟩ E.1
    obtain ⟨q, cS, hqa, hSl, hkS, hB', hbyt, hpl⟩ := hin
    subst hqa
    obtain ⟨D1, D2⟩ := sl_des (G := G) (vs := vs) hal' hSl hkS hB' hbyt htext ht
    have hI' := hI.ext E
    have far : ∀ e ∈ As, e.2.1 = true → q.sa ≠ e.1 ∧ q.sd ≠ e.1 := fun e he hw => by
      have g1 := (hI.2.2 e he).1 hw
      have g2 := (hI.2.2 e he).2.lt
      rcases hpl with ⟨p1, p2⟩ | ⟨p1, p2⟩
      · exact ⟨Nat.ne_of_lt (Nat.lt_of_lt_of_le p1 g1), Nat.ne_of_lt (Nat.lt_of_lt_of_le p2 g1)⟩
      · exact ⟨(Nat.ne_of_lt (Nat.lt_of_lt_of_le g2 p1)).symm, (Nat.ne_of_lt (Nat.lt_of_lt_of_le g2 p2)).symm⟩
    -- the text is booked at that very place
    have hnew : T'.vm.interned.find? (fun p => p.1 == units') = some (units', q.sa) := by
      obtain ⟨k2, hk2, -, -, ee2, -⟩ := hW0.2.2.2 _ k' hk'
      cases hkk.symm.trans hk2
      rcases ee2 idx with e0 | ⟨hop, r, e1, hr | ⟨a3, t, si, us, rfl, -, z3, z4, z5⟩⟩
      · rw [hrr, hopen] at e0; cases e0
      · exfalso
        cases r <;> simp [State.rightAt, State.setVm, hk', hcf', hnm] at hr
      · rw [hcf'] at z3 z4
        have e3 : si = i := by
          have := z3.symm.trans hcp
          simpa using this
        subst e3
        have e4 : us = units' := by simpa [ConstantPool.utf8?, hu] using z4.symm
        subst e4
        have e5 : a3 = q.sa := by
          have := e1.symm.trans hrr
          simpa using this
        subst e5
        exact z5
    have hLi : LI G.Z T'.vm ((y.cls, idx, text, q.sa) :: Li) := by
      refine ⟨hL.1.step hint, fun r hr => ?_, fun r hr us x hus hfx => ?_⟩
      · rcases List.mem_cons.mp hr with rfl | hr
        · have hf : T'.vm.findClass y.cls = some K.m.cls := by rw [hW0.alike.findClass]; exact hownT
          show State.resolvedAt? (G.Z.setVm T'.vm) y.cls idx = _
          simp [State.resolvedAt?, State.setVm, hf, hkk, hrr]
        · exact Lit.stays (s := K.s) (hL.2.1 r hr) hW0
      · rcases hint with e | ⟨u0, a0, hu0, e⟩
        · rw [e] at hfx; exact third q.sa r hr us x hus hfx
        · cases hft : T.vm.interned.find? (fun p => p.1 == us) with
          | some pr =>
            have : pr = (us, x) := by
              rw [e, Array.find?_push, hft] at hfx; simpa using hfx
            subst this
            exact third q.sa r hr us x hus hft
          | none =>
            have e6 : u0 = us ∧ a0 = x := by
              rw [e, Array.find?_push, hft] at hfx
              by_cases hq : u0 == us
              · simp [hq] at hfx; exact ⟨by simpa using hq, hfx.2⟩
              · simp [hq] at hfx
            obtain ⟨rfl, rfl⟩ := e6
            have e7 : text = r.2.2.1 := Option.some.inj (hu0.symm.trans hus)
            have e8 : u0 = units' := Array.toList_inj.mp (by rw [Jvm.ClassFile.units_of_text hu0 ht.1, Jvm.ClassFile.units_of_text htext ht.1])
            subst e8
            have e9 : q.sa = a0 := by
              have := hnew.symm.trans hfx
              simpa using this
            exact Or.inl ⟨_, List.mem_cons_self .., e7, e9⟩
    obtain ⟨U, u, g1, g2⟩ := nx q.sa q.sd T' T'.vm T'.heap.size locs ok X2 hSn (Nat.le_refl _) (fun q => by rw [hnw] at q; cases q) (hI'.two D1 D2 far) hLi hF
    exact ⟨U, u, st' _ g1, g2⟩
theorem W.ldcT {text : String} {vs : List Value} {n : Nat} (hnw : G.nw = false) (hd : decode code pc = .ok (.ldc idx, 2)) (w : (Cond.stringLink y.cls idx text).before G.a0 G.Z = true) (wS : ∀ a ∈ Bundle.stringAtoms, a.before G.a0 G.Z = true)
    (hh : Jvm.Lit.constHeld G.Z y.cls idx) (hcw : Jvm.Lit.compactW.before G.a0 G.Z = true) (hnot : text ∉ Li.map fun q => q.2.2.1) (ht : (∀ c ∈ text.toList, c.toNat < 256) ∧ text.toList.map (fun c => Value.int (Jvm.Lit.byteI c.toNat.toUInt16)) = vs)
    (hn : 4 * text.toList.length ≤ n) (hbig : n ≤ 536870912) (hc : cells + 2 ≤ R.cells) (hs : slots + (n + 4) ≤ R.slots)
    (nx : ∀ a b, W G K y code ret R Q ((a, false, obj "java/lang/String" litF [.ref b, .int 0]) :: (b, false, arr .byte vs) :: As) ((y.cls, idx, text, a) :: Li) (cells + 2) (slots + (n + 4)) (pc + 2) Ls (.ref a :: st)) : W G K y code ret R Q As Li cells slots pc Ls st :=
  W.ldcG hnw hd w wS hh hcw (fun q hq e => absurd (List.mem_map.mpr ⟨q, hq, e⟩) hnot) ht hn hbig hc hs nx
end Laws
end Jvm.Own
namespace Jvm.Own
open Sem ClassFile Op Lib Bundle Jvm.Stand Jvm.Free Jvm.LawKit Jvm.RoadKit
/-! ### what is known of a list that is not written out -/
abbrev STR : String := "java/lang/String"
section Strs
variable {G : Gx} {As As' : List Ent} {a b x : Addr} {w : Bool} {C D O n d : String} {v : Value} {fs fs' : List Fd} {vs vs' : List Value} {t t' : FieldType} {sc sc' : SC} {e : Ent} {cod : Int32} {h : Heap}
def Sub (As As' : List Ent) : Prop := ∀ e ∈ As, e ∈ As'
theorem Sub.refl (As : List Ent) : Sub As As := fun _ h => h
theorem Sub.cons (q : Sub As As') : Sub As (e :: As') := fun x hx => List.mem_cons_of_mem _ (q x hx)
theorem Sub.trans {As'' : List Ent} (q : Sub As As') (r : Sub As' As'') : Sub As As'' := fun x hx => r x (q x hx)
theorem Sub.trans' {As'' : List Ent} (r : Sub As' As'') (q : Sub As As') : Sub As As'' := fun x hx => r x (q x hx)
theorem Upd.mid {pre post : List Ent} : Upd (pre ++ (a, true, sc) :: post) a sc sc' (pre ++ (a, true, sc') :: post) := ⟨pre, post, rfl, rfl⟩
theorem Upd.new (u : Upd As a sc sc' As') : (a, true, sc') ∈ As' := by obtain ⟨pre, post, rfl, rfl⟩ := u; simp
theorem Upd.other (u : Upd As a sc sc' As') (he : e ∈ As) (hne : e ≠ (a, true, sc)) : e ∈ As' := by
  obtain ⟨pre, post, rfl, rfl⟩ := u
  rcases List.mem_append.mp he with he | he
  · exact List.mem_append_left _ he
  · rcases List.mem_cons.mp he with rfl | he
    · exact absurd rfl hne
    · exact List.mem_append_right _ (List.mem_cons_of_mem _ he)
theorem Upd.of_mem (hm : (a, true, sc) ∈ As) (sc' : SC) : ∃ As', Upd As a sc sc' As' := by
  obtain ⟨pre, post, rfl⟩ := List.append_of_mem hm; exact ⟨_, pre, post, rfl, rfl⟩
def FIn (G : Gx) (As : List Ent) (a : Addr) (C O n d : String) (v : Value) : Prop := (∃ w fs vs, (a, w, obj C fs vs) ∈ As ∧ FAt fs vs O n d v) ∨ Fld G.Z G.Z.heap a O n d v
theorem FIn.mem (hm : (a, w, obj C fs vs) ∈ As) (q : FAt fs vs O n d v) : FIn G As a C O n d v := Or.inl ⟨w, fs, vs, hm, q⟩
theorem FIn.old (F : Fld G.Z G.Z.heap a O n d v) : FIn G As a C O n d v := Or.inr F
theorem FIn.fld (q : FIn G As a C O n d v) (I : Inv G As h) : Fld G.Z h a O n d v := by
  rcases q with ⟨w, fs, vs, hm, q⟩ | F
  · exact I.fld hm q
  · exact F.ext I.old
theorem FIn.sub (q : FIn G As a C O n d v) (s : Sub As As') : FIn G As' a C O n d v := q.imp (fun ⟨w, fs, vs, hm, r⟩ => ⟨w, fs, vs, s _ hm, r⟩) id
theorem Is.sub (q : Is G As a C) (s : Sub As As') : Is G As' a C := q.imp (fun ⟨w, fs, vs, hm⟩ => ⟨w, fs, vs, s _ hm⟩) id
theorem AVin.sub (q : AVin G As a t vs) (s : Sub As As') : AVin G As' a t vs := q.imp (fun ⟨w, hm⟩ => ⟨w, s _ hm⟩) id
theorem Is.upd (q : Is G As x C) (u : Upd As a (obj D fs vs) (obj D fs' vs') As') : Is G As' x C := by
  rcases q with ⟨w, f, v, hm⟩ | E
  · by_cases hne : ((x, w, obj C f v) : Ent) = (a, true, obj D fs vs)
    · have h1 := congrArg Prod.fst hne
      have h2 := congrArg (fun e : Ent => e.2.2) hne
      simp only [obj, Sum.inl.injEq, Prod.mk.injEq] at h1 h2
      obtain ⟨rfl, -, -⟩ := h2
      subst h1
      exact Or.inl ⟨_, _, _, u.new⟩
    · exact Or.inl ⟨w, f, v, u.other hm hne⟩
  · exact Or.inr E
theorem Is.updA (q : Is G As x C) (u : Upd As a (arr t vs) sc' As') : Is G As' x C := by
  rcases q with ⟨w, f, v, hm⟩ | E
  · exact Or.inl ⟨w, f, v, u.other hm (fun q => by simp at q)⟩
  · exact Or.inr E
theorem FIn.upd (q : FIn G As x C O n d v) (u : Upd As a (obj D fs vs) sc' As') (hD : C ≠ D) : FIn G As' x C O n d v := by
  rcases q with ⟨w, f, v, hm, r⟩ | F
  · exact Or.inl ⟨w, f, v, u.other hm (fun q => hD (by simp at q; exact q.2.2.1)), r⟩
  · exact Or.inr F
theorem FIn.updA (q : FIn G As x C O n d v) (u : Upd As a (arr t vs) sc' As') : FIn G As' x C O n d v := by
  rcases q with ⟨w, f, v, hm, r⟩ | F
  · exact Or.inl ⟨w, f, v, u.other hm (fun q => by simp at q), r⟩
  · exact Or.inr F
theorem AVin.upd (q : AVin G As x t vs) (u : Upd As a (obj D fs vs') sc' As') : AVin G As' x t vs := by
  rcases q with ⟨w, hm⟩ | A
  · exact Or.inl ⟨w, u.other hm (fun q => by simp at q)⟩
  · exact Or.inr A
theorem AVin.updT (q : AVin G As x t vs) (u : Upd As a (arr t' vs') sc' As') (ht : t ≠ t') : AVin G As' x t vs := by
  rcases q with ⟨w, hm⟩ | A
  · exact Or.inl ⟨w, u.other hm (fun q => ht (by simp at q; exact q.2.2.1))⟩
  · exact Or.inr A
/-- a String: its bytes, its coder -/
def StrIn (G : Gx) (As : List Ent) (a : Addr) (bs : List Value) (cod : Int32) : Prop :=
  ∃ b, Is G As a STR ∧ FIn G As a STR STR "value" "[B" (.ref b) ∧ FIn G As a STR STR "coder" "B" (.int cod) ∧ AVin G As b .byte bs
theorem StrIn.sub (q : StrIn G As a vs cod) (s : Sub As As') : StrIn G As' a vs cod := by
  obtain ⟨b, h1, h2, h3, h4⟩ := q; exact ⟨b, h1.sub s, h2.sub s, h3.sub s, h4.sub s⟩
theorem StrIn.upd {us : List Value} (q : StrIn G As x vs cod) (u : Upd As a (obj D fs vs') (obj D fs' us) As') (hD : STR ≠ D) : StrIn G As' x vs cod := by
  obtain ⟨b, h1, h2, h3, h4⟩ := q; exact ⟨b, h1.upd u, h2.upd u hD, h3.upd u hD, h4.upd u⟩
theorem StrIn.is (q : StrIn G As a vs cod) : Is G As a STR := by obtain ⟨b, h1, -⟩ := q; exact h1
/-- a String constant: not loaded yet, or here -/
def LitOk (As : List Ent) (Li : List LitE) (own : String) (idx : Nat) (text : String) (vs : List Value) : Prop :=
  (text ∉ Li.map fun q => q.2.2.1) ∨ ∃ a b, (own, idx, text, a) ∈ Li ∧ (a, false, obj STR litF [.ref b, .int 0]) ∈ As ∧ (b, false, arr .byte vs) ∈ As
theorem LitOk.sub {Li : List LitE} {own text : String} {idx : Nat} (q : LitOk As Li own idx text vs) (s : Sub As As') : LitOk As' Li own idx text vs :=
  q.imp id fun ⟨a, b, h1, h2, h3⟩ => ⟨a, b, h1, s _ h2, s _ h3⟩
theorem LitOk.upd {Li : List LitE} {own text : String} {idx : Nat} (q : LitOk As Li own idx text vs) (u : Upd As a sc sc' As') : LitOk As' Li own idx text vs :=
  q.imp id fun ⟨a, b, h1, h2, h3⟩ => ⟨a, b, h1, u.other h2 (fun q => by simp at q), u.other h3 (fun q => by simp at q)⟩
theorem LitOk.str {a b : Addr} (h2 : (a, false, obj STR litF [.ref b, .int 0]) ∈ As) (h3 : (b, false, arr .byte vs) ∈ As) : StrIn G As a vs 0 :=
  ⟨b, Is.mem h2, FIn.mem h2 FAt.head, FIn.mem h2 (FAt.tail FAt.head), AVin.mem h3⟩
end Strs
section Laws
variable {G : Gx} {K : Kx} {y : MethodName} {code : ByteArray} {ret : Option FieldType} {R : Room} {Q : Qx} {As As' : List Ent} {Li Li' : List LitE} {cells slots pc pc' : Nat} {Ls Ls' : List Slot} {st st' : List Value} {idx : Nat} {a : Addr} {C O n d R0 host : String} {v : Value}
theorem W.getI (wl : (Cond.fieldLink y.cls idx R0 n d).before G.a0 G.Z = true ∨ (Cond.fieldLinkNest y.cls idx R0 n d host).before G.a0 G.Z = true) (via : Via G.Z R0 O n d) (hd : decode code pc = .ok (.getfield idx, 3))
    (hf : FIn G As a C O n d v) (nx : W G K y code ret R Q As Li cells slots (pc + 3) Ls (v :: st)) : W G K y code ret R Q As Li cells slots pc Ls (.ref a :: st) := by
  intro T vm0 k0 locs ok X hS hk hN hI hL hF
  obtain ⟨T', X', e', st'⟩ := Jvm.RoadKit.getF X ok.1 (ok_Z ok hS) (ok_own ok hS) wl via rfl (hf.fld hI) (g := mkF K.m pc Ls.toArray (.ref a :: st)) rfl rfl (hb ok.2.1 hd)
  obtain ⟨U, u, h1, h2⟩ := nx T' vm0 k0 locs ok X' hS (by rw [e']; exact hk) hN (by rw [e']; exact hI) hL hF
  exact ⟨U, u, st' _ h1, h2⟩
/-- 'ldc' of a String constant, loaded already or not -/
theorem W.ldcL {text : String} {vs : List Value} {n : Nat} (hl : LitOk As Li y.cls idx text vs) (hnw : G.nw = false) (hd : decode code pc = .ok (.ldc idx, 2)) (w : (Cond.stringLink y.cls idx text).before G.a0 G.Z = true) (wS : ∀ a ∈ Bundle.stringAtoms, a.before G.a0 G.Z = true)
    (hh : Jvm.Lit.constHeld G.Z y.cls idx) (hcw : Jvm.Lit.compactW.before G.a0 G.Z = true) (ht : (∀ c ∈ text.toList, c.toNat < 256) ∧ text.toList.map (fun c => Value.int (Jvm.Lit.byteI c.toNat.toUInt16)) = vs)
    (hn : 4 * text.toList.length ≤ n) (hbig : n ≤ 536870912) (hc : cells + 2 ≤ R.cells) (hs : slots + (n + 4) ≤ R.slots)
    (nx : ∀ a b As' Li', (a, false, obj STR litF [.ref b, .int 0]) ∈ As' → (b, false, arr .byte vs) ∈ As' → (y.cls, idx, text, a) ∈ Li' → ((As' = As ∧ Li' = Li) ∨ (As' = (a, false, obj STR litF [.ref b, .int 0]) :: (b, false, arr .byte vs) :: As ∧ Li' = (y.cls, idx, text, a) :: Li)) →
      W G K y code ret R Q As' Li' (cells + 2) (slots + (n + 4)) (pc + 2) Ls (.ref a :: st)) : W G K y code ret R Q As Li cells slots pc Ls st := by
  rcases hl with hl | ⟨a, b, h1, h2, h3⟩
  · exact W.ldcT hnw hd w wS hh hcw hl ht hn hbig hc hs fun a b => nx a b _ _ (List.Mem.head _) (List.Mem.tail _ (List.Mem.head _)) (List.Mem.head _) (Or.inr ⟨rfl, rfl⟩)
  · exact W.ldcA hd w h1 (W.mono (nx a b As Li h2 h3 h1 (Or.inl ⟨rfl, rfl⟩)) (Nat.le_add_right _ _) (Nat.le_add_right _ _))
end Laws
/-! ### small numbers as ints -/
theorem n_toInt {a : Nat} (h : a < 2147483648) : a.toInt32.toInt = a := len_toInt (by simpa using h)
theorem n_lt {a b : Nat} (h : a < b) (hb : b < 2147483648) : a.toInt32 < b.toInt32 := by
  rw [Int32.lt_iff_toInt_lt, n_toInt hb, n_toInt (by omega)]; omega
theorem n_nlt {a b : Nat} (h : b ≤ a) (ha : a < 2147483648) : ¬ a.toInt32 < b.toInt32 := by
  rw [Int32.lt_iff_toInt_lt, n_toInt ha, n_toInt (by omega)]; omega
theorem n_nn {a : Nat} (h : a < 2147483648) : ¬ a.toInt32 < 0 := by
  rw [Int32.lt_iff_toInt_lt, n_toInt h]; show ¬ ((a : Int) < 0); omega
theorem n_clamp {a : Nat} (h : a < 2147483648) : a.toInt32.toNatClampNeg = a := by
  simp only [Int32.toNatClampNeg, n_toInt h]; omega
theorem n_succ (a : Nat) : a.toInt32 + 1 = (a + 1).toInt32 := by
  show Int32.ofNat a + 1 = Int32.ofNat (a + 1)
  rw [Int32.ofNat_add]; rfl
theorem store_one {Ls : List Slot} {k : Nat} {o : Slot} {v : Value} (hold : Ls[k]? = some o) (ho : One o) (hv : v.category = 1) : storeLocals Ls.toArray k v = some (Ls.set k (.val v)).toArray := by
  rw [Jvm.Free.XS.store1 (o := o) (by simpa using hold) ho hv]; simp
theorem byt_fits (z : Int32) : fits .byte (.int z.toInt8.toInt32) = true := fits_nar_byte z
end Jvm.Own
namespace Jvm.Own
open Sem ClassFile Op Lib Bundle Jvm.Stand Jvm.Free Jvm.LawKit Jvm.RoadKit
abbrev byt (z : Int32) : Value := .int z.toInt8.toInt32
theorem n_ne0 {a : Nat} (h0 : 0 < a) (h : a < 2147483648) : ¬ a.toInt32 = 0 := fun e => by
  have := congrArg Int32.toInt e
  rw [n_toInt h] at this
  have h0' : (0 : Int32).toInt = 0 := rfl
  omega
theorem own_fill (cs : List Int32) {k m : Nat} (hk : k < cs.length) (hm : k + (m + 1) = cs.length) :
    ((cs.take k).map byt ++ List.replicate (m + 1) (Value.int 0)).set k (byt cs[k]) = (cs.take (k + 1)).map byt ++ List.replicate m (Value.int 0) := by
  have hl : ((cs.take k).map byt).length = k := by simp; omega
  rw [List.set_append_right _ _ (by omega), hl, Nat.sub_self, List.replicate_succ, List.set_cons_zero, List.take_succ_eq_append_getElem hk, List.map_append, List.append_assoc]
  rfl
theorem own_done (cs : List Int32) : (cs.take cs.length).map byt ++ List.replicate 0 (Value.int 0) = cs.map byt := by simp
/-- the String constants loaded since: only such texts -/
def LX (Ts : List String) (Li L : List LitE) : Prop := ∃ M, L = M ++ Li ∧ ∀ q ∈ M, q.2.2.1 ∈ Ts
theorem LX.refl (Ts : List String) (Li : List LitE) : LX Ts Li Li := ⟨[], rfl, fun _ h => nomatch h⟩
theorem LX.one {Ts : List String} {Li : List LitE} {q : LitE} (h : q.2.2.1 ∈ Ts) : LX Ts Li (q :: Li) := ⟨[q], rfl, fun r hr => by cases List.mem_singleton.mp hr; exact h⟩
theorem LX.trans {Ts : List String} {Li L L' : List LitE} (a : LX Ts Li L) (b : LX Ts L L') : LX Ts Li L' := by
  obtain ⟨M, rfl, h⟩ := a; obtain ⟨N, rfl, g⟩ := b
  exact ⟨N ++ M, by simp, fun q hq => (List.mem_append.mp hq).elim (g q) (h q)⟩
theorem LX.mono {Ts Ts' : List String} {Li L : List LitE} (a : LX Ts Li L) (h : ∀ t ∈ Ts, t ∈ Ts') : LX Ts' Li L := by
  obtain ⟨M, rfl, g⟩ := a; exact ⟨M, rfl, fun q hq => h _ (g q hq)⟩
theorem LX.mem {Ts : List String} {Li L : List LitE} (a : LX Ts Li L) {q : LitE} (h : q ∈ Li) : q ∈ L := by obtain ⟨M, rfl, -⟩ := a; exact List.mem_append_right _ h
theorem LX.lit {Ts : List String} {Li L : List LitE} {As As' : List Ent} {own text : String} {idx : Nat} {vs : List Value} (a : LX Ts Li L) (s : Sub As As') (q : LitOk As Li own idx text vs) (ht : text ∉ Ts) : LitOk As' L own idx text vs := by
  rcases q with q | ⟨x, b, h1, h2, h3⟩
  · refine Or.inl fun h => ?_
    obtain ⟨M, rfl, g⟩ := a
    rw [List.map_append] at h
    rcases List.mem_append.mp h with h | h
    · obtain ⟨r, hr, e⟩ := List.mem_map.mp h
      exact ht (e ▸ g r hr)
    · exact q h
  · exact Or.inr ⟨x, b, a.mem h1, s _ h2, s _ h3⟩
/-- COMPACT_STRINGS is on -/
def CSt (G : Gx) : Prop := ∃ z : Int32, Sta G.Z G.Z.heap STR "COMPACT_STRINGS" "Z" (.int z) ∧ ¬ z = 0
/-- a String is made of chars: what the maker leaves -/
def NewS (G : Gx) (As : List Ent) (Li : List LitE) (o : Addr) (bs : List Value) (A : List Ent) (L : List LitE) : Prop :=
  StrIn G A o bs 0 ∧ Sub As A ∧ LitOk A L STR 7 "" [] ∧ LX [""] Li L
end Jvm.Own
namespace Jvm.Own
open Sem ClassFile Op Lib Bundle Jvm.Stand Jvm.Free Jvm.LawKit Jvm.RoadKit
theorem ref_nar {u : Value} {C : String} (h : u.isRef = true) : narrow (.object C) u = u := by rcases ref_cases h with rfl | ⟨_, rfl⟩ <;> rfl
theorem ref_fit {u : Value} {C : String} (h : u.isRef = true) : fits (.object C) u = true := by rcases ref_cases h with rfl | ⟨_, rfl⟩ <;> rfl
theorem ref_cat {u : Value} (h : u.isRef = true) : u.category = 1 := by rcases ref_cases h with rfl | ⟨_, rfl⟩ <;> rfl
theorem Is.cons {G : Gx} {As : List Ent} {a : Addr} {C : String} {e : Ent} (q : Is G As a C) : Is G (e :: As) a C := q.sub (Sub.cons (Sub.refl _))
end Jvm.Own
namespace Jvm.Own
open Sem ClassFile Op Lib Bundle Jvm.Stand Jvm.Free Jvm.LawKit Jvm.RoadKit
/-- 1 where the two lists are one, else 0 -/
def eqI (xs zs : List Int32) : Int32 := if xs = zs then 1 else 0
theorem eqI_len {xs zs : List Int32} (h : xs.length ≠ zs.length) : eqI xs zs = 0 := if_neg fun e => h (congrArg List.length e)
theorem eqI_at {xs zs : List Int32} {k : Nat} (h1 : k < xs.length) (h2 : k < zs.length) (h : xs[k] ≠ zs[k]) : eqI xs zs = 0 := if_neg fun e => h (by subst e; rfl)
theorem eqI_all {xs zs : List Int32} (hl : xs.length = zs.length) (h : ∀ k (h1 : k < xs.length) (h2 : k < zs.length), xs[k] = zs[k]) : eqI xs zs = 1 := if_pos (List.ext_getElem hl h)
theorem eqI_self (xs : List Int32) : eqI xs xs = 1 := if_pos rfl
theorem n_inj {a b : Nat} (ha : a < 2147483648) (hb : b < 2147483648) (h : a.toInt32 = b.toInt32) : a = b := by
  have := congrArg Int32.toInt h
  rw [n_toInt ha, n_toInt hb] at this
  omega
theorem eqI_nar (xs zs : List Int32) : narrow .boolean (.int (eqI xs zs)) = .int (eqI xs zs) := by unfold eqI; split <;> rfl
end Jvm.Own
namespace Jvm.Own
open Sem ClassFile Op Lib Bundle Jvm.Stand Jvm.Free Jvm.LawKit Jvm.RoadKit
theorem Fld.uniq {Z : State} {h : Heap} {a : Addr} {C n d : String} {v u : Value} (F : Fld Z h a C n d v) (H : Fld Z h a C n d u) : v = u := by
  by_cases q : v = u
  · exact q
  · exact absurd rfl (RoadKit.Fld.ne F H q)
theorem AV.uniq {Z : State} {h : Heap} {a : Addr} {w w' : Bool} {t t' : FieldType} {vs us : List Value} (A : AV Z h a w t vs) (B : AV Z h a w' t' us) : vs = us := by
  obtain ⟨c, A1, e1, -⟩ := A
  obtain ⟨c', B1, e2, -⟩ := B
  cases A1.1.symm.trans B1.1
  exact e1.symm.trans e2
theorem StrIn.uniq {G : Gx} {As : List Ent} {a : Addr} {vs us : List Value} {c c' : Int32} {h : Heap} (I : Inv G As h) (q : StrIn G As a vs c) (r : StrIn G As a us c') : vs = us := by
  obtain ⟨b, -, q2, -, q4⟩ := q
  obtain ⟨b', -, r2, -, r4⟩ := r
  obtain rfl := Value.ref.inj (Fld.uniq (q2.fld I) (r2.fld I))
  exact AV.uniq (q4.get I) (r4.get I)
theorem map_int_inj {xs zs : List Int32} (h : xs.map Value.int = zs.map Value.int) : xs = zs := by
  have := congrArg (List.map fun v => match v with | Value.int z => z | _ => 0) h
  simpa [List.map_map, Function.comp_def] using this
end Jvm.Own
namespace Jvm.Own
open Sem ClassFile Op Lib Bundle Jvm.Stand Jvm.Free Jvm.LawKit Jvm.RoadKit
/-- a class right below Object is no K -/
theorem not_sub {Z : State} {a0 : Array Value} {C O K : String} {n : Nat} (wC : (Cond.superclass C O).before a0 Z = true) (wO : (Cond.noSuperclass O).before a0 Z = true) (wK : (Cond.instantiable K n).before a0 Z = true) (hn : C ≠ K) (hO : O ≠ K) :
    ∃ c t, Z.vm.findClass C = some c ∧ Z.vm.findClass K = some t ∧ Z.vm.assignable c t = false := by
  obtain ⟨c, h0⟩ := found_sup wC
  obtain ⟨p, k, kp, h1, h2, h3, h4, h5, -, h7⟩ := Cond.superclass_spec h0 wC
  obtain ⟨o, ko, g1, g2, g3, -⟩ := Cond.noSuperclass_spec wO
  cases h1.symm.trans g1
  cases h3.symm.trans g2
  obtain ⟨t, kt, t1, t2, t3, t4, -⟩ := Cond.instantiable_spec wK
  have ne := ids_ne h0 t1 hn
  have ne' := ids_ne h1 t1 hO
  have ti : kt.isInterface = false := by simp at t4; exact t4.1
  have sub : ∀ fuel, Z.vm.isSubclassAux fuel c t = false := fun fuel => by
    cases fuel with
    | zero => rfl
    | succ f => cases f with
      | zero => simp [Vm.isSubclassAux, ne, h2, h4]
      | succ f => simp [Vm.isSubclassAux, ne, ne', h2, h3, h4, g3]
  refine ⟨c, t, h0, t1, ?_⟩
  show Z.vm.assignableAux (255 + 1) c t = false
  simp [Vm.assignableAux, ne, h2, t2, h5, t3, ti, Vm.isSubclass, sub]
end Jvm.Own
namespace Jvm.Own
open Sem ClassFile Op Lib Bundle Jvm.Stand Jvm.Free Jvm.LawKit Jvm.RoadKit
theorem shr0 (n : Int32) : n >>> (0 : Int32) = n := by
  apply Int32.toInt_inj.mp
  simp
end Jvm.Own
namespace Jvm.Own
open Sem ClassFile Op Lib Bundle Jvm.Stand Jvm.Free Jvm.LawKit Jvm.RoadKit
theorem n_add (a b : Nat) : a.toInt32 + b.toInt32 = (a + b).toInt32 := by
  show Int32.ofNat a + Int32.ofNat b = Int32.ofNat (a + b)
  rw [Int32.ofNat_add]
theorem n_sub {a b : Nat} (h : b ≤ a) : a.toInt32 - b.toInt32 = (a - b).toInt32 := by
  have e : (a - b).toInt32 + b.toInt32 = a.toInt32 := by rw [n_add]; congr 1; omega
  rw [← e, Int32.add_sub_cancel]
end Jvm.Own
namespace Jvm.Own
open Sem ClassFile Op Lib Bundle Jvm.Stand Jvm.Free Jvm.LawKit Jvm.RoadKit
theorem args_ls {args : List Value} {Ls : List Slot} {n : Nat} (h : Sym.laidSlots args ++ List.replicate (n - (Sym.laidSlots args).length) .unset = Ls) : argsToLocals args.toArray n = Ls.toArray := by
  apply Array.toList_inj.mp
  rw [Sym.argsToLocals_toList]
  exact h
end Jvm.Own
namespace Jvm.Own
open Sem ClassFile Op Lib Bundle Jvm.Stand Jvm.Free Jvm.LawKit Jvm.RoadKit
/-! ### a cell that the walk won't write again -/
def Frz (As : List Ent) (a : Addr) (sc : SC) (As' : List Ent) : Prop := ∃ pre post, As = pre ++ (a, true, sc) :: post ∧ As' = pre ++ (a, false, sc) :: post
section Frzs
variable {G : Gx} {As As' As'' : List Ent} {a b x : Addr} {w : Bool} {sc sc' : SC} {e : Ent} {h : Heap} {C O n d : String} {fs : List Fd} {vs us : List Value} {t : FieldType}
theorem Frz.head : Frz ((a, true, sc) :: As) a sc ((a, false, sc) :: As) := ⟨[], As, rfl, rfl⟩
theorem Frz.tail (u : Frz As a sc As') : Frz (e :: As) a sc (e :: As') := by obtain ⟨pre, post, rfl, rfl⟩ := u; exact ⟨e :: pre, post, rfl, rfl⟩
theorem Frz.of_mem (hm : (a, true, sc) ∈ As) : ∃ As', Frz As a sc As' := by obtain ⟨pre, post, rfl⟩ := List.append_of_mem hm; exact ⟨_, pre, post, rfl, rfl⟩
theorem Frz.new (u : Frz As a sc As') : (a, false, sc) ∈ As' := by obtain ⟨pre, post, rfl, rfl⟩ := u; simp
theorem Frz.other (u : Frz As a sc As') (he : e ∈ As) (hne : e ≠ (a, true, sc)) : e ∈ As' := by
  obtain ⟨pre, post, rfl, rfl⟩ := u
  rcases List.mem_append.mp he with he | he
  · exact List.mem_append_left _ he
  · rcases List.mem_cons.mp he with rfl | he
    · exact absurd rfl hne
    · exact List.mem_append_right _ (List.mem_cons_of_mem _ he)
theorem Des.frz {Z : State} {a0 : Array Value} (D : Des Z a0 h a true sc) : Des Z a0 h a false sc := by
  rcases sc with ⟨C, fs, vs⟩ | ⟨t, vs⟩
  · exact ⟨D.1, D.2.1, D.2.2.1, fun q => nomatch q⟩
  · obtain ⟨c, A, r1, r2, r3, -⟩ := D
    exact ⟨c, A, r1, r2, r3, fun q => nomatch q⟩
theorem Inv.frz (I : Inv G As h) (u : Frz As a sc As') : Inv G As' h := by
  obtain ⟨pre, post, rfl, rfl⟩ := u
  refine ⟨I.1, ?_, fun e he => ?_⟩
  · have sp := I.2.1
    simp only [Sep, List.map_append, List.map_cons, List.pairwise_append, List.pairwise_cons] at sp ⊢
    refine ⟨sp.1, ⟨fun p hp q => sp.2.1.1 p hp (by simp), sp.2.1.2⟩, fun p hp q hq r => ?_⟩
    rcases List.mem_cons.mp hq with rfl | hq
    · exact sp.2.2 p hp (a, true) (List.mem_cons_self ..) (by simp)
    · exact sp.2.2 p hp q (List.mem_cons_of_mem _ hq) r
  · rcases List.mem_append.mp he with he | he
    · exact I.2.2 e (List.mem_append_left _ he)
    · rcases List.mem_cons.mp he with rfl | he
      · exact ⟨(fun q => nomatch q), (I.2.2 (a, true, sc) (List.mem_append_right _ (List.mem_cons_self ..))).2.frz⟩
      · exact I.2.2 e (List.mem_append_right _ (List.mem_cons_of_mem _ he))
/-- a String that won't be written again: its signs -/
def StrF (As : List Ent) (a : Addr) (bs : List Value) : Prop :=
  ∃ b fs vs, (a, false, obj STR fs vs) ∈ As ∧ FAt fs vs STR "value" "[B" (.ref b) ∧ FAt fs vs STR "coder" "B" (.int 0) ∧ (b, false, arr .byte bs) ∈ As
theorem StrF.str (q : StrF As a vs) : StrIn G As a vs 0 := by
  obtain ⟨b, fs, us, h1, h2, h3, h4⟩ := q; exact ⟨b, Is.mem h1, FIn.mem h1 h2, FIn.mem h1 h3, AVin.mem h4⟩
theorem StrF.is (q : StrF As a vs) : Is G As a STR := by obtain ⟨b, fs, us, h1, h2, h3, h4⟩ := q; exact Is.mem h1
theorem StrF.sub (q : StrF As a vs) (s : Sub As As') : StrF As' a vs := by
  obtain ⟨b, fs, us, h1, h2, h3, h4⟩ := q; exact ⟨b, fs, us, s _ h1, h2, h3, s _ h4⟩
theorem StrF.upd (q : StrF As a vs) (u : Upd As x sc sc' As') : StrF As' a vs := by
  obtain ⟨b, fs, us, h1, h2, h3, h4⟩ := q; exact ⟨b, fs, us, u.other h1 (fun r => by simp at r), h2, h3, u.other h4 (fun r => by simp at r)⟩
theorem StrF.frz (q : StrF As a vs) (u : Frz As x sc As') : StrF As' a vs := by
  obtain ⟨b, fs, us, h1, h2, h3, h4⟩ := q; exact ⟨b, fs, us, u.other h1 (fun r => by simp at r), h2, h3, u.other h4 (fun r => by simp at r)⟩
theorem StrF.lit (h2 : (a, false, obj STR litF [.ref b, .int 0]) ∈ As) (h3 : (b, false, arr .byte vs) ∈ As) : StrF As a vs := ⟨b, _, _, h2, FAt.head, FAt.tail FAt.head, h3⟩
/-- what is not written any more stays -/
def Stay (As As' : List Ent) : Prop := ∀ e ∈ As, e.2.1 = false → e ∈ As'
theorem Stay.refl (As : List Ent) : Stay As As := fun _ h _ => h
theorem Stay.trans (p : Stay As As') (q : Stay As' As'') : Stay As As'' := fun e h w => q e (p e h w) w
theorem Sub.stay (p : Sub As As') : Stay As As' := fun e h _ => p e h
theorem Upd.stay (u : Upd As a sc sc' As') : Stay As As' := fun e h w => u.other h (fun q => by subst q; cases w)
theorem Frz.stay (u : Frz As a sc As') : Stay As As' := fun e h w => u.other h (fun q => by subst q; cases w)
theorem StrF.stay (q : StrF As a vs) (s : Stay As As') : StrF As' a vs := by
  obtain ⟨b, fs, us, h1, h2, h3, h4⟩ := q; exact ⟨b, fs, us, s _ h1 rfl, h2, h3, s _ h4 rfl⟩
theorem LitOk.stay {Li : List LitE} {own text : String} {idx : Nat} (q : LitOk As Li own idx text vs) (s : Stay As As') : LitOk As' Li own idx text vs :=
  q.imp id fun ⟨a, b, h1, h2, h3⟩ => ⟨a, b, h1, s _ h2 rfl, s _ h3 rfl⟩
/-- all but two cells stay -/
def Kp2 (As : List Ent) (x y : Ent) (As' : List Ent) : Prop := ∀ e ∈ As, e ≠ x → e ≠ y → e ∈ As'
theorem Kp2.stay {x y : Ent} (q : Kp2 As x y As') (hx : x.2.1 = true) (hy : y.2.1 = true) : Stay As As' := fun e h w => q e h (fun r => by subst r; rw [hx] at w; cases w) (fun r => by subst r; rw [hy] at w; cases w)
end Frzs
section Laws
variable {G : Gx} {K : Kx} {y : MethodName} {code : ByteArray} {ret : Option FieldType} {R : Room} {Q : Qx} {As As' : List Ent} {Li Li' : List LitE} {cells slots pc pc' : Nat} {Ls Ls' : List Slot} {st st' : List Value} {idx : Nat} {a b : Addr} {C O n d R0 host : String} {v : Value} {sc : SC} {t : FieldType} {vs us us' : List Value}
theorem W.frz (u : Frz As a sc As') (nx : W G K y code ret R Q As' Li cells slots pc Ls st) : W G K y code ret R Q As Li cells slots pc Ls st :=
  fun T vm0 k0 locs ok X hS hk hN hI hL hF => nx T vm0 k0 locs ok X hS hk hN (hI.frz u) hL hF
theorem AV.arv {Z : State} {h : Heap} {w : Bool} (A : AV Z h a w t vs) : ∃ k, Arv Z h a k t vs.length.toInt32 vs .null ∧ (w = true → t = .byte → Z.vm.findClass "[B" = some k) := by
  obtain ⟨c, A, e1, e2, e3, e4⟩ := A
  have hs : c.slots.size = vs.length := by rw [← e1]; simp
  refine ⟨c.cls, ⟨c, A, rfl, by rw [n_clamp e2, hs], n_nn e2, fun k hk => ?_, fun i hi => ?_⟩, fun hw ht => (e4 hw).2 ht⟩
  · have hk' : k < vs.length := by rw [← hs]; exact hk
    rw [List.getD_eq_getElem?_getD, List.getElem?_eq_getElem hk', Option.getD_some, ← Array.getElem?_toList, e1, List.getElem?_eq_getElem hk']
  · have hi' : i < vs.length := by rw [← hs]; exact hi
    rw [List.getD_eq_getElem?_getD, List.getElem?_eq_getElem hi', Option.getD_some]
    exact e3 _ (List.getElem_mem hi')
theorem AV.of_arv {Z : State} {h : Heap} {w : Bool} {k : ClassId} {z : Int32} {dv : Value} (A : Arv Z h a k t z vs dv) (hz : z.toNatClampNeg = vs.length) (h31 : vs.length < 2147483648) (rk : refKind t = false) (hB : t = .byte → Z.vm.findClass "[B" = some k) : AV Z h a w t vs := by
  obtain ⟨c, A, ek, e2, -, e4, e5⟩ := A
  have hs : c.slots.size = vs.length := e2.trans hz
  refine ⟨c, A, List.ext_getElem? fun i => ?_, h31, fun v hv => ?_, fun _ => ⟨(fun C e => by subst e; cases rk), fun e => by rw [ek]; exact hB e⟩⟩
  · by_cases hi : i < vs.length
    · have := e4 i (by omega)
      rw [List.getD_eq_getElem?_getD, List.getElem?_eq_getElem hi, Option.getD_some] at this
      rw [Array.getElem?_toList, this, List.getElem?_eq_getElem hi]
    · rw [List.getElem?_eq_none (by rw [Array.length_toList]; omega), List.getElem?_eq_none (by omega)]
  · obtain ⟨i, hi, rfl⟩ := List.getElem_of_mem hv
    have := e5 i (by omega)
    rwa [List.getD_eq_getElem?_getD, List.getElem?_eq_getElem hi, Option.getD_some] at this
theorem nfw : nativeFrameWords "java/lang/System" "arraycopy" 5 = 7 := by decide +kernel
/-- System.arraycopy of an array of primitives into one of the walk's own -/
theorem W.acopy {sp dp nn : Int32} {i j n : Nat} (hd : decode code pc = .ok (.invokestatic idx, 3)) (w1 : (Cond.methodLink y.cls idx Jvm.Stand.acN).before G.a0 G.Z = true) (w2 : (Cond.native Jvm.Stand.acN).before G.a0 G.Z = true) (w3 : (Cond.static Jvm.Stand.acN).before G.a0 G.Z = true) (w4 : (Cond.initialized "java/lang/System").before G.a0 G.Z = true)
    (hs : AVin G As a t vs) (rk : refKind t = false) (h1 : ¬ sp < 0) (h2 : ¬ dp < 0) (h3 : ¬ nn < 0) (hi : sp.toNatClampNeg = i) (hj : dp.toNatClampNeg = j) (hn : nn.toNatClampNeg = n) (l1 : i + n ≤ vs.length) (l2 : j + n ≤ us.length)
    (hv : us.take j ++ (vs.drop i).take n ++ us.drop (j + n) = us') (up : Upd As b (arr t us) (arr t us') As') (hf : 1 ≤ R.frames) (hl : wt st + 18 ≤ R.locals)
    (nx : W G K y code ret R Q As' Li cells slots (pc + 3) Ls st) : W G K y code ret R Q As Li cells slots pc Ls (.int nn :: .int dp :: .ref b :: .int sp :: .ref a :: st) := by
  intro T vm0 k0 locs ok X hS hk hN hI hL hF
  have hm := up.mem
  have AB : AV G.Z T.heap b true t us := hI.av hm
  have AA := hs.get hI
  obtain ⟨wa, AA⟩ : ∃ w, AV G.Z T.heap a w t vs := ⟨_, AA⟩
  obtain ⟨ka, A1, -⟩ := AA.arv
  obtain ⟨kb, B1, B1'⟩ := AB.arv
  have a31 : vs.length < 2147483648 := by obtain ⟨_, _, _, q, _⟩ := AA; exact q
  have b31 : us.length < 2147483648 := by obtain ⟨_, _, _, q, _⟩ := AB; exact q
  subst hi; subst hj; subst hn
  obtain ⟨T', h', L, X', e', F', Kp, B2, st'⟩ := cpA X ok.1 (ok_Z ok hS) (ok_own ok hS) w1 w2 w3 w4 rfl A1 B1 (Or.inl ⟨rfl, rk⟩) h1 h2 h3 (by rw [n_clamp a31]; exact l1) (by rw [n_clamp b31]; exact l2) rfl l2 hF ((hI.2.2 _ hm).1 rfl)
    (g := mkF K.m pc Ls.toArray (.int nn :: .int dp :: .ref b :: .int sp :: .ref a :: st)) rfl (by rw [ok.2.2.1]; simp) rfl (hb ok.2.1 hd) hf (wt_le st) (by rw [nfw]; exact hl)
  have eu : ((List.range nn.toNatClampNeg).map fun i => vs.getD (sp.toNatClampNeg + i) Value.null) = (vs.drop sp.toNatClampNeg).take nn.toNatClampNeg := by
    refine List.ext_getElem (by simp; omega) fun i q1 q2 => ?_
    have q : sp.toNatClampNeg + i < vs.length := by simp at q1; omega
    simp [List.getD_eq_getElem?_getD, List.getElem?_eq_getElem q]
  rw [eu, hv] at B2
  have ul : us'.length = us.length := by rw [← hv]; simp; omega
  have D : Des G.Z G.a0 h' b true (arr t us') := AV.of_arv B2 (by rw [n_clamp b31, ul]) (by rw [ul]; exact b31) rk (B1' rfl)
  obtain ⟨U, u', g1, g2⟩ := nx T' vm0 k0 L ok X' hS (by rw [e']; exact Nat.le_trans hk Kp.1) hN (by rw [e']; exact hI.upd up (fun x hx c q => Kp.2.1 x c q (by simpa using hx)) Kp.1 D) hL F'
  exact ⟨U, u', st' _ g1, g2⟩
end Laws
end Jvm.Own
namespace Jvm.Own
open Sem ClassFile Op Lib Bundle Jvm.Stand Jvm.Free Jvm.LawKit Jvm.RoadKit
/-- the lookup from a class that declares the method finds it: no word of its own is needed where a class selects another of its methods -/
theorem same_of {Z : State} {a0 : Array Value} {C : String} {z z' : MethodName} (wi : (Cond.instanceMethod z).before a0 Z = true) (ws : (Cond.selects C z' z').before a0 Z = true) (hc : z'.cls = z.cls) (hy : z.cls ≠ "java/lang/invoke/MethodHandle" ∧ z.cls ≠ "java/lang/invoke/VarHandle") :
    (Cond.sameMethod z.cls z.cls z.name z.desc).before a0 Z = true := by
  obtain ⟨mk, meth, hn, -⟩ := Cond.instanceMethod_spec wi
  have hf := State.methodFound?_of_named hn hy
  have hcl := findClass_of_methodNamed hn
  obtain ⟨c2, r2, m2, q1, q2, q3, q4, kP, hkP, hkPi⟩ := Cond.selects_spec ws
  have hcl' := findClass_of_methodNamed q3
  rw [hc] at hcl'
  have e : mk.cls = m2.cls := by
    first | exact Option.some.inj (hcl.symm.trans hcl') | (exact (Option.some.inj (hcl.symm.trans hcl')))
  have hkP' : Z.vm.classes[mk.cls]? = some kP := by rw [e]; exact hkP
  have hn' : Z.methodNamed? ⟨z.cls, z.name, z.desc⟩ = some mk := hn
  simp [Cond.before, Cond.holds, Cond.value, hcl, hf, hn', hkP', hkPi]
end Jvm.Own
namespace Jvm.Own
open Sem ClassFile Op Lib Bundle Jvm.Stand Jvm.Free Jvm.LawKit Jvm.RoadKit
/-! ### a builder's bytes -/
def pad (xs : List Int32) (cap : Nat) : List Value := xs.map Value.int ++ List.replicate (cap - xs.length) (.int 0)
def grow (cap need : Nat) : Nat := if need ≤ cap then cap else cap + max (need - cap) (cap + 2)
section
variable {xs ys : List Int32} {cap cap' need a b : Nat}
theorem pad_len (h : xs.length ≤ cap) : (pad xs cap).length = cap := by simp [pad]; omega
theorem pad_nil (cap : Nat) : pad [] cap = List.replicate cap (.int 0) := by simp [pad]
theorem pad_grow (h : xs.length ≤ cap) (h2 : cap ≤ cap') : pad xs cap ++ List.replicate (cap' - cap) (.int 0) = pad xs cap' := by
  rw [pad, pad, List.append_assoc, List.replicate_append_replicate]; congr 2; omega
theorem pad_take (xs : List Int32) (cap : Nat) : (pad xs cap).take xs.length = xs.map Value.int := by
  rw [pad, List.take_left' (by simp)]
theorem pad_put (h : xs.length + ys.length ≤ cap) : (pad xs cap).take xs.length ++ ys.map Value.int ++ (pad xs cap).drop (xs.length + ys.length) = pad (xs ++ ys) cap := by
  rw [pad_take, pad, pad, List.drop_append, List.drop_eq_nil_of_le (by simp), List.nil_append, List.drop_replicate, List.map_append]
  congr 2
  simp; omega
theorem grow_le (h : need ≤ cap) : grow cap need = cap := if_pos h
theorem grow_ge : need ≤ grow cap need := by unfold grow; split <;> omega
theorem grow_mono : cap ≤ grow cap need := by unfold grow; split <;> omega
theorem grow_gt (h : ¬ need ≤ cap) : grow cap need = cap + max (need - cap) (cap + 2) := if_neg h
theorem n_lt_iff (ha : a < 2147483648) (hb : b < 2147483648) : a.toInt32 < b.toInt32 ↔ a < b := ⟨fun h => Nat.lt_of_not_le fun q => n_nlt q ha h, fun h => n_lt h hb⟩
theorem n_pos (h : 0 < a) (ha : a < 2147483648) : (0 : Int32) < a.toInt32 := n_lt (a := 0) h ha
theorem n_subnp (h : a ≤ b) (hb : b < 2147483648) : ¬ (0 : Int32) < a.toInt32 - b.toInt32 := by
  have e : a.toInt32 - b.toInt32 = -((b - a).toInt32) := by rw [← n_sub h, Int32.neg_sub]
  rw [e, Int32.lt_iff_toInt_lt]
  have h1 := n_toInt (a := b - a) (by omega)
  have h0 : (0 : Int32).toInt = 0 := rfl
  rw [Int32.toInt_neg, h1, h0]
  have : (-((b - a : Nat) : Int)).bmod (2 ^ 32) = -((b - a : Nat) : Int) := Int.bmod_eq_of_le (by omega) (by omega)
  omega
theorem n_ne (h : a ≠ b) (ha : a < 2147483648) (hb : b < 2147483648) : ¬ a.toInt32 = b.toInt32 := fun q => h (n_inj ha hb q)
theorem n_max (ha : a < 2147483648) (hb : b < 2147483648) : (h : a.toInt32 < b.toInt32) → max a b = b := fun h => Nat.max_eq_right (Nat.le_of_lt ((n_lt_iff ha hb).mp h))
theorem n_max' (ha : a < 2147483648) (hb : b < 2147483648) : (h : ¬ a.toInt32 < b.toInt32) → max a b = a := fun h => Nat.max_eq_left (Nat.le_of_not_lt fun q => h ((n_lt_iff ha hb).mpr q))
theorem n_min (ha : a < 2147483648) (hb : b < 2147483648) : (h : b.toInt32 < a.toInt32) → min a b = b := fun h => Nat.min_eq_right (Nat.le_of_lt ((n_lt_iff hb ha).mp h))
theorem n_min' (ha : a < 2147483648) (hb : b < 2147483648) : (h : ¬ b.toInt32 < a.toInt32) → min a b = a := fun h => Nat.min_eq_left (Nat.le_of_not_lt fun q => h ((n_lt_iff hb ha).mpr q))
theorem shl0 (n : Int32) : n <<< ((0 : Int32) &&& 31) = n := by
  rw [show ((0 : Int32) &&& 31) = 0 from by decide]
  apply Int32.toBitVec_inj.mp
  simp
theorem shr0' (n : Int32) : n >>> ((0 : Int32) &&& 31) = n := by
  rw [show ((0 : Int32) &&& 31) = 0 from by decide]; exact shr0 n
end
end Jvm.Own
namespace Jvm.Own
open Sem ClassFile Op Lib Bundle Jvm.Stand Jvm.Free Jvm.LawKit Jvm.RoadKit
theorem decl_of {Z : State} {a0 : Array Value} {z : MethodName} {bytes : ByteArray} {mL : Nat} {ret : Option FieldType} (wi : (Cond.instanceMethod z).before a0 Z = true) (wc : (Cond.code z bytes mL ret).before a0 Z = true) : (Cond.declares z).before a0 Z = true := by
  obtain ⟨m, meth, hn, hm, hs, -⟩ := Cond.instanceMethod_spec wi
  obtain ⟨meth', c, hm', -, -, -, -, -, -, hsig⟩ := Cond.code_spec hn wc
  cases hm.symm.trans hm'
  simp [Cond.before, Cond.holds, Cond.value, hn, hm, hs, hsig]
end Jvm.Own
namespace Jvm.Own
open Sem ClassFile Op Lib Bundle Jvm.Stand Jvm.Free Jvm.LawKit Jvm.RoadKit
theorem nf_cls {G : Gx} {C : String} {x z' : MethodName} (ws : (Cond.selects C z' z').before G.a0 G.Z = true) (hc : z'.cls = x.cls) : ∀ s : State, G.Z.Warmed39 s.vm → NotFace s x := fun s hZ r0 h0 => by
  obtain ⟨c2, r2, m2, q1, q2, q3, q4, kP, hkP, hkPi⟩ := Cond.selects_spec (mvT (args := #[]) hZ ws)
  have e1 := findClass_of_methodNamed h0
  have e2 := findClass_of_methodNamed q3
  rw [hc] at e2
  have e : r0.cls = m2.cls := Option.some.inj (e1.symm.trans e2)
  exact ⟨kP, by rw [e]; exact hkP, hkPi⟩
end Jvm.Own
namespace Jvm.Own
open Sem ClassFile Op Lib Bundle Jvm.Stand Jvm.Free Jvm.LawKit Jvm.RoadKit
theorem LX.not {Ts : List String} {Li L : List LitE} {t : String} (a : LX Ts Li L) (h : t ∉ Li.map fun q => q.2.2.1) (ht : t ∉ Ts) : t ∉ L.map fun q => q.2.2.1 := by
  obtain ⟨M, rfl, g⟩ := a
  intro q
  rw [List.map_append] at q
  rcases List.mem_append.mp q with q | q
  · obtain ⟨r, hr, e⟩ := List.mem_map.mp q
    exact ht (e ▸ g r hr)
  · exact h q
theorem perm22 {α : Type} {a b c d : α} {l : List α} : (a :: b :: c :: d :: l).Perm (c :: d :: a :: b :: l) :=
  List.perm_append_comm_assoc [a, b] [c, d] l
/-- the signs of a text, as a builder holds them -/
def txb (s : String) : List Int32 := s.toList.map fun c => Jvm.Lit.byteI c.toNat.toUInt16
theorem txb_map (s : String) : (s.toList.map fun c => Value.int (Jvm.Lit.byteI c.toNat.toUInt16)) = (txb s).map Value.int := by simp [txb, List.map_map, Function.comp_def]
theorem txb_len (s : String) : (txb s).length = s.toList.length := by simp [txb]
end Jvm.Own
namespace Jvm.Own
open Sem ClassFile Op Lib Bundle Jvm.Stand Jvm.Free Jvm.LawKit Jvm.RoadKit
section
variable {As R : List Ent} {x y e : Ent} {a : Addr} {vs : List Value}
theorem two_front (hx : x ∈ As) (hy : y ∈ As) (hne : y ≠ x) : ∃ R, As.Perm (x :: y :: R) := by
  obtain ⟨p, q, rfl⟩ := List.append_of_mem hx
  have hy' : y ∈ p ++ q := by
    rcases List.mem_append.mp hy with h | h
    · exact List.mem_append_left _ h
    · rcases List.mem_cons.mp h with h | h
      · exact absurd h hne
      · exact List.mem_append_right _ h
  obtain ⟨p', q', e⟩ := List.append_of_mem hy'
  refine ⟨p' ++ q', List.perm_middle.trans (List.Perm.cons _ ?_)⟩
  rw [e]
  exact List.perm_middle
theorem in_front (hp : As.Perm (x :: y :: R)) (hx : x.2.1 = true) (hy : y.2.1 = true) (he : e ∈ As) (hw : e.2.1 = false) : e ∈ R := by
  rcases List.mem_cons.mp (hp.mem_iff.mp he) with rfl | h
  · rw [hx] at hw; cases hw
  · rcases List.mem_cons.mp h with rfl | h
    · rw [hy] at hw; cases hw
    · exact h
theorem StrF.front (q : StrF As a vs) (hp : As.Perm (x :: y :: R)) (hx : x.2.1 = true) (hy : y.2.1 = true) : StrF R a vs := by
  obtain ⟨b, fs, us, h1, h2, h3, h4⟩ := q
  exact ⟨b, fs, us, in_front hp hx hy h1 rfl, h2, h3, in_front hp hx hy h4 rfl⟩
end
end Jvm.Own
namespace Jvm.Own
open Sem ClassFile Op Lib Bundle Jvm.Stand Jvm.Free Jvm.LawKit Jvm.RoadKit
section Laws
variable {G : Gx} {K : Kx} {y : MethodName} {code : ByteArray} {ret : Option FieldType} {R : Room} {Q : Qx} {As As' : List Ent} {Li Li' : List LitE} {cells slots pc pc' : Nat} {Ls Ls' : List Slot} {st st' : List Value} {idx : Nat} {a b : Addr} {vs : List Value}
/-- a byte[] of the walk's own is cloned -/
theorem W.cloneB (cap : Nat) (hd : decode code pc = .ok (.invokevirtual idx, 3)) (w1 : (Cond.methodLink y.cls idx ⟨"[B", "clone", "()Ljava/lang/Object;"⟩).before G.a0 G.Z = true) (w2 : (Cond.sameMethod "[B" "java/lang/Object" "clone" "()Ljava/lang/Object;").before G.a0 G.Z = true) (w3 : (Cond.native ⟨"java/lang/Object", "clone", "()Ljava/lang/Object;"⟩).before G.a0 G.Z = true)
    (w4 : (Cond.instanceMethod ⟨"java/lang/Object", "clone", "()Ljava/lang/Object;"⟩).before G.a0 G.Z = true) (w5 : (Cond.selects "[B" ⟨"[B", "clone", "()Ljava/lang/Object;"⟩ ⟨"java/lang/Object", "clone", "()Ljava/lang/Object;"⟩).before G.a0 G.Z = true) (w6 : (Cond.castable "[B" "java/lang/Cloneable").before G.a0 G.Z = true)
    (hm : (a, true, arr .byte vs) ∈ As) (hcap : vs.length ≤ cap) (hf : 1 ≤ R.frames) (hl : wt st + 14 ≤ R.locals) (hc : cells + 1 ≤ R.cells) (hs : slots + cap ≤ R.slots)
    (nx : ∀ o, W G K y code ret R Q ((o, true, arr .byte vs) :: As) Li (cells + 1) (slots + cap) (pc + 3) Ls (.ref o :: st)) : W G K y code ret R Q As Li cells slots pc Ls (.ref a :: st) := by
  intro T vm0 k0 locs ok X hS hk hN hI hL hF
  obtain ⟨c, A, e1, e2, e3, e4⟩ := hI.av hm
  have hB := (e4 rfl).2 rfl
  obtain ⟨hst, k, hkk, comp, hkind⟩ := A.2.1
  have hvm : c.vm.isStatics = false := by
    cases hq : c.vm <;> first | rfl | exact absurd hq (hst _)
  have E : Exa G.Z T.heap a "[B" := ⟨c, k, A.1, hB, hkk, hvm, fun q => by rw [hkind] at q; cases q⟩
  have F : FitC G.Z c := fun i v hv => by
    have hmem : v ∈ vs := by
      rw [← e1]
      obtain ⟨hi, rfl⟩ := Array.getElem?_eq_some_iff.mp hv
      simp
    have q := e3 v hmem
    simp [State.fitsSlot, State.slotType?, hkk, hkind, q]
  obtain ⟨T', h', X', e', Ex, A', E', st'⟩ := cloneA X ok.1 (ok_Z ok hS) (ok_own ok hS) w1 w2 w3 w4 w5 w6 rfl A E F (g := mkF K.m pc Ls.toArray (.ref a :: st)) rfl (by rw [ok.2.2.1]; simp) rfl (hb ok.2.1 hd) hf (wt_le st) hl (cap := cap) (by rw [size_of e1]; exact hcap) hc hs
  have hD : Des G.Z G.a0 h' T.heap.size true (arr .byte vs) := ⟨_, A', e1, e2, e3, fun _ => ⟨(fun C q => by cases q), fun _ => hB⟩⟩
  obtain ⟨U, u, g1, g2⟩ := nx T.heap.size T' vm0 k0 locs ok X' hS (by rw [e']; exact Nat.le_trans hk Ex.1) hN (by rw [e']; exact hI.push Ex hD) hL hF
  exact ⟨U, u, st' _ g1, g2⟩
/-- a byte[] of the walk's own is of the class "[B" -/
theorem W.castB {D : String} (wl : (Cond.classLink y.cls idx "[B").before G.a0 G.Z = true) (hd : decode code pc = .ok (.checkcast idx, 3)) (hm : (a, true, arr .byte vs) ∈ As)
    (nx : W G K y code ret R Q As Li cells slots (pc + 3) Ls (.ref a :: st)) : W G K y code ret R Q As Li cells slots pc Ls (.ref a :: st) := by
  intro T vm0 k0 locs ok X hS hk hN hI hL hF
  obtain ⟨c, A, e1, e2, e3, e4⟩ := hI.av hm
  have hB := (e4 rfl).2 rfl
  obtain ⟨hst, k, hkk, comp, hkind⟩ := A.2.1
  have hvm : c.vm.isStatics = false := by
    cases hq : c.vm <;> first | rfl | exact absurd hq (hst _)
  have E : Exa G.Z T.heap a "[B" := ⟨c, k, A.1, hB, hkk, hvm, fun q => by rw [hkind] at q; cases q⟩
  obtain ⟨T', X', e', st'⟩ := castY X ok.1 (ok_Z ok hS) (ok_own ok hS) wl rfl (Ins.self E) (g := mkF K.m pc Ls.toArray (.ref a :: st)) rfl rfl (hb ok.2.1 hd)
  obtain ⟨U, u, h1, h2⟩ := nx T' vm0 k0 locs ok X' hS (by rw [e']; exact hk) hN (by rw [e']; exact hI) hL hF
  exact ⟨U, u, st' _ h1, h2⟩
end Laws
/-! ### all String constants that the walk has loaded are here -/
section LAs
variable {As As' : List Ent} {Li : List LitE} {a b : Addr} {own text : String} {idx : Nat} {sc sc' : SC} {e : Ent}
def LA (As : List Ent) (Li : List LitE) : Prop := ∀ q ∈ Li, ∃ b, (q.2.2.2, false, obj "java/lang/String" litF [.ref b, .int 0]) ∈ As ∧ (b, false, arr .byte ((txb q.2.2.1).map Value.int)) ∈ As
theorem LA.nil (As : List Ent) : LA As [] := fun _ h => nomatch h
theorem LA.stay (h : LA As Li) (s : Stay As As') : LA As' Li := fun q hq => by obtain ⟨b, h1, h2⟩ := h q hq; exact ⟨b, s _ h1 rfl, s _ h2 rfl⟩
theorem LA.sub (h : LA As Li) (s : Sub As As') : LA As' Li := h.stay s.stay
theorem LA.cons1 (h : LA As Li) : LA (e :: As) Li := h.sub (Sub.cons (Sub.refl _))
theorem LA.lit (h : LA As Li) : LA ((a, false, obj "java/lang/String" litF [.ref b, .int 0]) :: (b, false, arr .byte ((txb text).map Value.int)) :: As) ((own, idx, text, a) :: Li) := fun q hq => by
  rcases List.mem_cons.mp hq with rfl | hq
  · exact ⟨b, List.Mem.head _, List.Mem.tail _ (List.Mem.head _)⟩
  · obtain ⟨c, h1, h2⟩ := h q hq; exact ⟨c, List.Mem.tail _ (List.Mem.tail _ h1), List.Mem.tail _ (List.Mem.tail _ h2)⟩
theorem LA.g (h : LA As Li) (text : String) : LitG As Li text ((txb text).map Value.int) := fun q hq e => by subst e; exact h q hq
theorem LA.perm (h : LA As Li) (p : As.Perm As') : LA As' Li := h.sub fun e he => p.mem_iff.mp he
theorem LA.front {x y : Ent} {R : List Ent} (h : LA As Li) (hp : As.Perm (x :: y :: R)) (hx : x.2.1 = true) (hy : y.2.1 = true) : LA R Li := fun q hq => by
  obtain ⟨b, h1, h2⟩ := h q hq; exact ⟨b, in_front hp hx hy h1 rfl, in_front hp hx hy h2 rfl⟩
end LAs
end Jvm.Own
namespace Jvm.Own
open Sem ClassFile Op Lib Bundle Jvm.Stand Jvm.Free Jvm.LawKit Jvm.RoadKit
section Laws
variable {G : Gx} {K : Kx} {y : MethodName} {code : ByteArray} {ret : Option FieldType} {R : Room} {Q : Qx} {As As' : List Ent} {Li Li' : List LitE} {cells slots pc pc' : Nat} {Ls Ls' : List Slot} {st st' : List Value} {idx : Nat}
/-- a lambda that captures nothing: its site hands out its one object -/
theorem W.lam0 {σ : Lambda.Shape} (hd : decode code pc = .ok (.invokedynamic idx, 5)) (wl : (Cond.lambdaSite y pc idx σ).before G.a0 G.Z = true) (hc : σ.captured = []) (hw : wt st + 3072 ≤ R.locals)
    (nx : ∀ a, W G K y code ret R Q As Li cells slots (pc + 5) Ls (.ref a :: st)) : W G K y code ret R Q As Li cells slots pc Ls st := by
  intro T vm0 k0 locs ok X hS hk hN hI hL hF
  have hZ : G.Z.Warmed39 vm0 := ok_Z ok hS
  obtain ⟨cK, one, hat⟩ := Cond.lambdaSite_spec wl
  obtain ⟨m', kS, cfS, i0, p0, lk, hm', hkS, hcfS, -, -, hfind, -, -, hlk⟩ := State.lambdaAt?_spec hat
  obtain ⟨a, cell, rfl, -⟩ : ∃ a cell, lk = .constant a ∧ one = some a ∧ σ.captured = [] ∧ G.Z.heap[a]? = some cell ∧ cell.cls = cK ∧ cell.vm = .none ∧ cell.slots = #[] := by
    rcases hlk with h | ⟨-, -, h⟩
    · exact h
    · exact absurd hc h
  have hn := ok.2.2.2.2.2.2.2.2.1
  have e1 : (K.s.setVm K.s.vm).methodNamed? y = G.Z.methodNamed? y := by
    have q := State.methodNamed?_setVm (s := G.Z) (vm' := K.s.vm) ok.2.2.2.1.alike y
    rw [← q]
    exact congrFun (State.methodNamed?_of_vm rfl) y
  have e2 : K.s.methodNamed? y = (K.s.setVm K.s.vm).methodNamed? y := congrFun (State.methodNamed?_of_vm rfl) y
  have em : m' = K.m := by
    rw [e2, e1, hm'] at hn
    exact Option.some.inj hn
  subst em
  obtain ⟨k', hk', he'⟩ := hZ.alike.2.2 _ _ hkS
  have hsite : (k'.callSites.find? fun y => y.1 == K.m.idx && y.2.1 == pc) = some (i0, p0, .constant a) := by rw [he']; exact hfind
  obtain ⟨U, u, h1, h2⟩ := nx a T vm0 k0 locs ok X hS hk hN hI hL hF
  refine ⟨U, u, X.lambdaConstant ok.1 (g := mkF K.m pc Ls.toArray st) rfl (by rw [ok.2.2.1]; simp) (hb ok.2.1 hd) (s := K.s.setVm vm0) hk' hsite ?_ h1, h2⟩
  have hp := X.admits.platform
  rw [hp]
  show 2 * 0 + (st.map fun v => v.category).sum + 3072 ≤ R.locals
  simpa [wt] using hw
end Laws
end Jvm.Own
namespace Jvm.Own
open Sem ClassFile Op Lib Bundle Jvm.Stand Jvm.Free Jvm.LawKit Jvm.RoadKit
section Laws
variable {G : Gx} {K : Kx} {y : MethodName} {code : ByteArray} {ret : Option FieldType} {R : Room} {Q : Qx} {As As' : List Ent} {Li Li' : List LitE} {cells slots pc pc' : Nat} {Ls Ls' : List Slot} {st st' : List Value} {idx : Nat} {a b : Addr} {vs : List Value}
/-- a String that stood at the start comes to the list -/
theorem W.oldStr (E : Exa G.Z G.Z.heap a STR) (F1 : Fld G.Z G.Z.heap a STR "value" "[B" (.ref b)) (F2 : Fld G.Z G.Z.heap a STR "coder" "B" (.int 0)) (A : AV G.Z G.Z.heap b false .byte vs)
    (nx : W G K y code ret R Q ((a, false, obj STR litF [.ref b, .int 0]) :: (b, false, arr .byte vs) :: As) Li cells slots pc Ls st) : W G K y code ret R Q As Li cells slots pc Ls st := by
  intro T vm0 k0 locs ok X hS hk hN hI hL hF
  have E0 := hI.old
  have D1 : Des G.Z G.a0 G.Z.heap a false (obj STR litF [.ref b, .int 0]) := ⟨E, rfl, fun i f v hf hv => by
    match i, hf, hv with
    | 0, hf, hv => cases hf; cases hv; exact F1
    | 1, hf, hv => cases hf; cases hv; exact F2, fun q => nomatch q⟩
  have D2 : Des G.Z G.a0 G.Z.heap b false (arr .byte vs) := A
  have g1 := D1.lt
  have g2 := D2.lt
  exact nx T vm0 k0 locs ok X hS hk hN (hI.two (D1.cell fun c h => E0.2 _ c h) (D2.cell fun c h => E0.2 _ c h) fun e he hw => by
    have g3 := (hI.2.2 e he).1 hw
    exact ⟨Nat.ne_of_lt (Nat.lt_of_lt_of_le g1 g3), Nat.ne_of_lt (Nat.lt_of_lt_of_le g2 g3)⟩) hL hF
end Laws
theorem pad_set {xs : List Int32} {cap : Nat} {z : Int32} (h : xs.length < cap) : (pad xs cap).set xs.length (.int z) = pad (xs ++ [z]) cap := by
  obtain ⟨k, hk⟩ : ∃ k, cap - xs.length = k + 1 := ⟨cap - xs.length - 1, by omega⟩
  rw [pad, pad, hk, List.set_append_right _ _ (by simp), List.length_map, Nat.sub_self, List.replicate_succ, List.set_cons_zero, List.map_append, List.append_assoc, List.length_append, show cap - (xs.length + [z].length) = k by simp; omega]
  rfl
theorem n_pred (m : Nat) : (m + 1).toInt32 + -1 = m.toInt32 := by
  rw [← n_succ, Int32.add_assoc, show (1 : Int32) + -1 = 0 from by decide, Int32.add_zero]
end Jvm.Own
namespace Jvm.Own
open Sem ClassFile Op Lib Bundle Jvm.Stand Jvm.Free Jvm.LawKit Jvm.RoadKit
/-- a private method is what its class selects: no word of its own is needed where a class selects another of that class's methods -/
theorem sel_priv {Z : State} {a0 : Array Value} {C : String} {z z' : MethodName} (wi : (Cond.instanceMethod z).before a0 Z = true) (wp : (Cond.privateMethod z).before a0 Z = true) (ws : (Cond.selects C z' z').before a0 Z = true) (hc : z'.cls = z.cls) (hy : z.cls ≠ "java/lang/invoke/MethodHandle" ∧ z.cls ≠ "java/lang/invoke/VarHandle") :
    (Cond.selects z.cls z z).before a0 Z = true := by
  obtain ⟨mk, meth, hn, hm, -⟩ := Cond.instanceMethod_spec wi
  have hf := State.methodFound?_of_named hn hy
  have hcl := findClass_of_methodNamed hn
  have hpv := Cond.privateMethod_at wp mk meth hn hm
  have hsel : selectMethod {} Z.vm mk.cls mk = .method mk := selectMethod_private hm hpv
  obtain ⟨c2, r2, m2, q1, q2, q3, q4, kP, hkP, hkPi⟩ := Cond.selects_spec ws
  have hcl' := findClass_of_methodNamed q3
  rw [hc] at hcl'
  have e : mk.cls = m2.cls := Option.some.inj (hcl.symm.trans hcl')
  have hkP' : Z.vm.classes[mk.cls]? = some kP := by rw [e]; exact hkP
  simp [Cond.before, Cond.holds, Cond.value, hcl, hf, hn, hsel, hkP', hkPi]
end Jvm.Own
namespace Jvm.Pilot.@@N@@
open Jvm Jvm.ClassFile Sem Op Lib Jvm.Free Jvm.Stand Jvm.LawKit Jvm.RoadKit Bundle Jvm.Pilot.@@N@@.Jvm.D
def F_java_lang_String : List Own.Fd := [("java/lang/String", "coder", "B"), ("java/lang/String", "value", "[B")]
theorem LF_java_lang_String (G : Own.Gx) (hw : ∀ d ∈ tables_1, d.before G.a0 G.Z = true) : Own.LaidAll G.Z G.a0 "java/lang/String" F_java_lang_String := ⟨by decide, Own.LaidAll.cons (Or.inr (hw _ (List.mem_of_getElem? (i := 31) rfl))) (t := .byte) (by decide) (Own.LaidAll.cons (Or.inr (hw _ (List.mem_of_getElem? (i := 33) rfl))) (t := (.array .byte)) (by decide) (Own.LaidAll.nil))⟩
def F_com_example_stairwell_stairwell_core_Step : List Own.Fd := [("com/example/stairwell/stairwell/core/Step", "version", "Ljava/util/Optional;"), ("com/example/stairwell/stairwell/core/Step", "name", "Ljava/lang/String;")]
theorem LF_com_example_stairwell_stairwell_core_Step (G : Own.Gx) (hw : ∀ d ∈ tables_1, d.before G.a0 G.Z = true) : Own.LaidAll G.Z G.a0 "com/example/stairwell/stairwell/core/Step" F_com_example_stairwell_stairwell_core_Step := ⟨by decide, Own.LaidAll.cons (Or.inr (hw _ (List.mem_of_getElem? (i := 74) rfl))) (t := (.object "java/util/Optional")) (by decide) (Own.LaidAll.cons (Or.inr (hw _ (List.mem_of_getElem? (i := 76) rfl))) (t := (.object "java/lang/String")) (by decide) (Own.LaidAll.nil))⟩
theorem d6_0 : decode jdk_52_method_21_code 0 = .ok (.iconst 0, 1) := by decide +kernel
theorem d6_1 : decode jdk_52_method_21_code 1 = .ok (.istore 5, 2) := by decide +kernel
theorem d6_3 : decode jdk_52_method_21_code 3 = .ok (.iload 5, 2) := by decide +kernel
theorem d6_5 : decode jdk_52_method_21_code 5 = .ok (.iload 4, 2) := by decide +kernel
theorem d6_7 : decode jdk_52_method_21_code 7 = .ok (.if_icmp .ge 37, 3) := by decide +kernel
theorem d6_44 : decode jdk_52_method_21_code 44 = .ok (.iload 4, 2) := by decide +kernel
theorem d6_46 : decode jdk_52_method_21_code 46 = .ok (.ireturn, 1) := by decide +kernel
theorem d6_10 : decode jdk_52_method_21_code 10 = .ok (.aload_n 0, 1) := by decide +kernel
theorem d6_11 : decode jdk_52_method_21_code 11 = .ok (.iload_n 1, 1) := by decide +kernel
theorem d6_12 : decode jdk_52_method_21_code 12 = .ok (.caload, 1) := by decide +kernel
theorem d6_13 : decode jdk_52_method_21_code 13 = .ok (.istore 6, 2) := by decide +kernel
theorem d6_15 : decode jdk_52_method_21_code 15 = .ok (.iload 6, 2) := by decide +kernel
theorem d6_17 : decode jdk_52_method_21_code 17 = .ok (.sipush 255, 3) := by decide +kernel
theorem d6_20 : decode jdk_52_method_21_code 20 = .ok (.if_icmp .le 6, 3) := by decide +kernel
theorem d6_26 : decode jdk_52_method_21_code 26 = .ok (.aload_n 2, 1) := by decide +kernel
theorem d6_27 : decode jdk_52_method_21_code 27 = .ok (.iload_n 3, 1) := by decide +kernel
theorem d6_28 : decode jdk_52_method_21_code 28 = .ok (.iload 6, 2) := by decide +kernel
theorem d6_30 : decode jdk_52_method_21_code 30 = .ok (.i2b, 1) := by decide +kernel
theorem d6_31 : decode jdk_52_method_21_code 31 = .ok (.bastore, 1) := by decide +kernel
theorem d6_32 : decode jdk_52_method_21_code 32 = .ok (.iinc 1 1, 3) := by decide +kernel
theorem d6_35 : decode jdk_52_method_21_code 35 = .ok (.iinc 3 1, 3) := by decide +kernel
theorem d6_38 : decode jdk_52_method_21_code 38 = .ok (.iinc 5 1, 3) := by decide +kernel
theorem d6_41 : decode jdk_52_method_21_code 41 = .ok (.goto (-38), 3) := by decide +kernel
theorem pn_5999480 : plainFor (⟨"java/lang/StringUTF16", "compress", "([CI[BII)I"⟩ : MethodName) = true := by first | exact plainFor_of_name (by first | (simp [plainName, overriddenIn]; done) | decide +kernel) | decide +kernel
set_option maxRecDepth 65536 in
set_option maxHeartbeats 4000000 in
theorem ct_cmp (G : Own.Gx) (hw : ∀ d ∈ tables_1, d.before G.a0 G.Z = true) {As : List Own.Ent} {Li : List Own.LitE} (c b : Addr) (cs : List Int32) (hlen : cs.length < 2147483648) (hch : ∀ z ∈ cs, ¬ (255 : Int32) < z) (hm : Own.AVin G As c .char (cs.map Value.int)) :
    Own.Ct G [] (⟨"java/lang/StringUTF16", "compress", "([CI[BII)I"⟩ : MethodName) jdk_52_method_21_code 7 (some .int) ({ frames := 0, cells := 0, slots := 0, locals := 0 } : Room) [.ref c, .int 0, .ref b, .int 0, .int cs.length.toInt32] ((b, true, Own.arr .byte (List.replicate cs.length (.int 0))) :: As) Li (fun v A L => v = some (.int cs.length.toInt32) ∧ A = (b, true, Own.arr .byte (cs.map Own.byt)) :: As ∧ L = Li) := by
  refine Own.Ct.intro pn_5999480 (Ls := [.val (.ref c), .val (.int 0), .val (.ref b), .val (.int 0), .val (.int cs.length.toInt32), .unset, .unset]) rfl rfl ?_
  intro K
  suffices loop : ∀ (m k : Nat) (o : Slot), k + m = cs.length → One o → Own.W G K (⟨"java/lang/StringUTF16", "compress", "([CI[BII)I"⟩ : MethodName) jdk_52_method_21_code (some .int) ({ frames := 0, cells := 0, slots := 0, locals := 0 } : Room) (fun v A L => v = some (.int cs.length.toInt32) ∧ A = (b, true, Own.arr .byte (cs.map Own.byt)) :: As ∧ L = Li) ((b, true, Own.arr .byte ((cs.take k).map Own.byt ++ List.replicate m (.int 0))) :: As) Li 0 0 3 [.val (.ref c), .val (.int k.toInt32), .val (.ref b), .val (.int k.toInt32), .val (.int cs.length.toInt32), .val (.int k.toInt32), o] [] by
    refine Own.W.iconst (pc := 0) (z := (0 : Int32)) d6_0 (by decide) ?_
    refine Own.W.istore (pc := 1) (Ls' := [_, _, _, _, _, _, _]) d6_1 rfl rfl ?_
    exact loop cs.length 0 .unset (by simp) One.u
  intro m
  induction m with
  | zero =>
    intro k o hk ho
    obtain rfl : k = cs.length := by omega
    refine Own.W.iload (pc := 3) d6_3 rfl ?_
    refine Own.W.iload (pc := 5) d6_5 rfl ?_
    refine Own.W.ic_ge (pc := 7) 44 d6_7 (by decide) (by decide) ?_ (fun h7 => absurd h7 (Own.n_nlt (Nat.le_refl _) hlen))
    intro h7
    refine Own.W.iload (pc := 44) d6_44 rfl ?_
    refine Own.W.iret (pc := 46) d6_46 rfl (by simp) (by first | rfl | decide) ?_ (Nat.le_of_ble_eq_true rfl) (Nat.le_of_ble_eq_true rfl)
    exact ⟨rfl, by rw [Own.own_done], rfl⟩
  | succ m ih =>
    intro k o hk ho
    have hkl : k < cs.length := by omega
    refine Own.W.iload (pc := 3) d6_3 rfl ?_
    refine Own.W.iload (pc := 5) d6_5 rfl ?_
    refine Own.W.ic_ge (pc := 7) 44 d6_7 (by decide) (by decide) (fun h7 => absurd h7 (fun q => q (Own.n_lt hkl hlen))) ?_
    intro h7
    refine Own.W.aloadN (pc := 10) d6_10 rfl rfl ?_
    refine Own.W.iloadN (pc := 11) d6_11 rfl ?_
    refine Own.W.caload (pc := 12) d6_12 (hm.sub (Own.Sub.cons (Own.Sub.refl _))) (Own.n_nn (by omega)) (v := .int cs[k]) (by rw [Own.n_clamp (by omega)]; simp [hkl]) ?_
    refine Own.W.istore (pc := 13) (Ls' := [_, _, _, _, _, _, _]) d6_13 (Own.store_one rfl ho rfl) rfl ?_
    refine Own.W.iload (pc := 15) d6_15 rfl ?_
    refine Own.W.sipush (pc := 17) (z := (255 : Int32)) d6_17 (by decide) ?_
    refine Own.W.ic_le (pc := 20) 26 d6_20 (by decide) (by decide) ?_ (fun h20 => absurd h20 (hch _ (List.getElem_mem _)))
    intro h20
    refine Own.W.aloadN (pc := 26) d6_26 rfl rfl ?_
    refine Own.W.iloadN (pc := 27) d6_27 rfl ?_
    refine Own.W.iload (pc := 28) d6_28 rfl ?_
    refine Own.W.i2b (pc := 30) d6_30 rfl ?_
    refine Own.W.bastore (pc := 31) d6_31 (Own.n_nn (by omega)) (Own.n_clamp (by omega)) (by simp; omega) (u := Own.byt cs[k]) (by simp [nar]) (Own.own_fill cs hkl hk) Own.Upd.head ?_
    refine Own.W.iinc (pc := 32) (z := (1 : Int32)) (Ls' := [_, _, _, _, _, _, _]) d6_32 rfl (by decide) rfl rfl ?_
    refine Own.W.iinc (pc := 35) (z := (1 : Int32)) (Ls' := [_, _, _, _, _, _, _]) d6_35 rfl (by decide) rfl rfl ?_
    refine Own.W.iinc (pc := 38) (z := (1 : Int32)) (Ls' := [_, _, _, _, _, _, _]) d6_38 rfl (by decide) rfl rfl ?_
    refine Own.W.goto (pc := 41) 3 d6_41 (by decide) (by decide) ?_
    have ih' := ih (k + 1) (.val (.int cs[k])) (by omega) (One.val rfl)
    rw [← Own.n_succ] at ih'
    exact ih'
theorem d5_0 : decode jdk_52_method_16_code 0 = .ok (.iload_n 2, 1) := by decide +kernel
theorem d5_1 : decode jdk_52_method_16_code 1 = .ok (.newarray .byte, 2) := by decide +kernel
theorem d5_3 : decode jdk_52_method_16_code 3 = .ok (.astore_n 3, 1) := by decide +kernel
theorem d5_4 : decode jdk_52_method_16_code 4 = .ok (.aload_n 0, 1) := by decide +kernel
theorem d5_5 : decode jdk_52_method_16_code 5 = .ok (.iload_n 1, 1) := by decide +kernel
theorem d5_6 : decode jdk_52_method_16_code 6 = .ok (.aload_n 3, 1) := by decide +kernel
theorem d5_7 : decode jdk_52_method_16_code 7 = .ok (.iconst 0, 1) := by decide +kernel
theorem d5_8 : decode jdk_52_method_16_code 8 = .ok (.iload_n 2, 1) := by decide +kernel
theorem d5_9 : decode jdk_52_method_16_code 9 = .ok (.invokestatic 115, 3) := by decide +kernel
theorem pd_79053557 : parseMethodDescriptor "([CI[BII)I" = some ⟨[(.array .char), .int, (.array .byte), .int, .int], some .int⟩ := by decide +kernel
theorem d5_12 : decode jdk_52_method_16_code 12 = .ok (.istore 4, 2) := by decide +kernel
theorem d5_14 : decode jdk_52_method_16_code 14 = .ok (.iload 4, 2) := by decide +kernel
theorem d5_16 : decode jdk_52_method_16_code 16 = .ok (.iload_n 2, 1) := by decide +kernel
theorem d5_17 : decode jdk_52_method_16_code 17 = .ok (.if_icmp .eq 40, 3) := by decide +kernel
theorem d5_57 : decode jdk_52_method_16_code 57 = .ok (.aload_n 3, 1) := by decide +kernel
theorem d5_58 : decode jdk_52_method_16_code 58 = .ok (.areturn, 1) := by decide +kernel
theorem pn_53398918 : plainFor (⟨"java/lang/StringUTF16", "compress", "([CII)[B"⟩ : MethodName) = true := by first | exact plainFor_of_name (by first | (simp [plainName, overriddenIn]; done) | decide +kernel) | decide +kernel
set_option maxRecDepth 65536 in
set_option maxHeartbeats 4000000 in
theorem ct_cmp2 (G : Own.Gx) (hw : ∀ d ∈ tables_1, d.before G.a0 G.Z = true) {As : List Own.Ent} {Li : List Own.LitE} (c : Addr) (cs : List Int32) (N : Nat) (hN : cs.length ≤ N) (hN4 : N ≤ 4000) (hch : ∀ z ∈ cs, ¬ (255 : Int32) < z) (hm : Own.AVin G As c .char (cs.map Value.int)) :
    Own.Ct G [] (⟨"java/lang/StringUTF16", "compress", "([CII)[B"⟩ : MethodName) jdk_52_method_16_code 6 (some (.array .byte)) ({ frames := 1, cells := 1, slots := N, locals := 18 } : Room) [.ref c, .int 0, .int cs.length.toInt32] As Li (fun v A L => ∃ b, v = some (.ref b) ∧ A = (b, true, Own.arr .byte (cs.map Own.byt)) :: As ∧ L = Li) := by
  refine Own.Ct.intro pn_53398918 (Ls := [.val (.ref c), .val (.int 0), .val (.int cs.length.toInt32), .unset, .unset, .unset]) rfl rfl ?_
  intro K
  refine Own.W.iloadN (pc := 0) d5_0 rfl ?_
  refine Own.W.newP (pc := 1) N (hw _ (List.mem_of_getElem? (i := 23) rfl)) d5_1 rfl (Own.n_nn (by omega)) (by rw [Own.n_clamp (by omega)]; exact hN) (by omega) (vs := (List.replicate cs.length (.int 0))) (by rw [Own.n_clamp (by omega)]; rfl) (Nat.le_of_ble_eq_true rfl) (by first | exact Nat.le_of_ble_eq_true rfl | (simp; done) | (simp; omega)) ?_
  intro o1
  refine Own.W.astoreN (pc := 3) (Ls' := [_, _, _, _, _, _]) d5_3 rfl rfl rfl ?_
  refine Own.W.aloadN (pc := 4) d5_4 rfl rfl ?_
  refine Own.W.iloadN (pc := 5) d5_5 rfl ?_
  refine Own.W.aloadN (pc := 6) d5_6 rfl rfl ?_
  refine Own.W.iconst (pc := 7) (z := (0 : Int32)) d5_7 (by decide) ?_
  refine Own.W.iloadN (pc := 8) d5_8 rfl ?_
  refine Own.W.callS (pc := 9) (ct_cmp G hw c o1 cs (by omega) hch hm) d5_9 (hw _ (List.mem_of_getElem? (i := 24) rfl)) (hw _ (List.mem_of_getElem? (i := 25) rfl)) (hw _ (List.mem_of_getElem? (i := 21) rfl)) (hw _ (List.mem_of_getElem? (i := 26) rfl)) (by decide) pd_79053557 rfl rfl (Nat.le_of_ble_eq_true rfl) (Nat.le_of_ble_eq_true rfl) (by first | exact Nat.le_of_ble_eq_true rfl | (simp; done) | (simp; omega)) (by first | exact Nat.le_of_ble_eq_true rfl | (simp; done) | (simp; omega)) ?_
  rintro _ _ _ ⟨rfl, rfl, rfl⟩
  refine Own.W.istore (pc := 12) (Ls' := [_, _, _, _, _, _]) d5_12 rfl rfl ?_
  refine Own.W.iload (pc := 14) d5_14 rfl ?_
  refine Own.W.iloadN (pc := 16) d5_16 rfl ?_
  refine Own.W.ic_eq (pc := 17) 57 d5_17 (by decide) (by decide) ?_ (fun h17 => absurd h17 (fun q => q rfl))
  intro h17
  refine Own.W.aloadN (pc := 57) d5_57 rfl rfl ?_
  refine Own.W.aret (pc := 58) d5_58 rfl rfl rfl ?_ (Nat.le_of_ble_eq_true rfl) (by first | exact Nat.le_of_ble_eq_true rfl | (simp; done) | (simp; omega))
  exact ⟨_, rfl, rfl, rfl⟩
theorem d7_0 : decode jdk_52_method_15_code 0 = .ok (.iload_n 1, 1) := by decide +kernel
theorem d7_1 : decode jdk_52_method_15_code 1 = .ok (.aload_n 0, 1) := by decide +kernel
theorem d7_2 : decode jdk_52_method_15_code 2 = .ok (.arraylength, 1) := by decide +kernel
theorem d7_3 : decode jdk_52_method_15_code 3 = .ok (.isub, 1) := by decide +kernel
theorem d7_4 : decode jdk_52_method_15_code 4 = .ok (.bipush 31, 2) := by decide +kernel
theorem d7_6 : decode jdk_52_method_15_code 6 = .ok (.iushr, 1) := by decide +kernel
theorem d7_7 : decode jdk_52_method_15_code 7 = .ok (.i2b, 1) := by decide +kernel
theorem d7_8 : decode jdk_52_method_15_code 8 = .ok (.ireturn, 1) := by decide +kernel
theorem pn_92531892 : plainFor (⟨"java/lang/StringUTF16", "coderFromArrayLen", "([BI)B"⟩ : MethodName) = true := by first | exact plainFor_of_name (by first | (simp [plainName, overriddenIn]; done) | decide +kernel) | decide +kernel
set_option maxRecDepth 65536 in
set_option maxHeartbeats 4000000 in
theorem ct_cod (G : Own.Gx) (hw : ∀ d ∈ tables_1, d.before G.a0 G.Z = true) {As : List Own.Ent} {Li : List Own.LitE} (b : Addr) (vs : List Value) (z : Int32) (hm : Own.AVin G As b .byte vs) (hz : vs.length.toInt32 = z) :
    Own.Ct G [] (⟨"java/lang/StringUTF16", "coderFromArrayLen", "([BI)B"⟩ : MethodName) jdk_52_method_15_code 2 (some .byte) ({ frames := 0, cells := 0, slots := 0, locals := 0 } : Room) [.ref b, .int z] As Li (fun v A L => v = some (.int 0) ∧ As = A ∧ Li = L) := by
  refine Own.Ct.intro pn_92531892 (Ls := [.val (.ref b), .val (.int z)]) rfl rfl ?_
  intro K
  refine Own.W.iloadN (pc := 0) d7_0 rfl ?_
  refine Own.W.aloadN (pc := 1) d7_1 rfl rfl ?_
  refine Own.W.alen (pc := 2) d7_2 hm hz ?_
  refine Own.W.isub (pc := 3) d7_3 (Int32.sub_self _) ?_
  refine Own.W.bipush (pc := 4) (z := (31 : Int32)) d7_4 (by decide) ?_
  refine Own.W.iushr (pc := 6) d7_6 (z := (0 : Int32)) (by decide) ?_
  refine Own.W.i2b (pc := 7) d7_7 (z := (0 : Int32)) (by decide) ?_
  refine Own.W.iret (pc := 8) d7_8 rfl (by simp) (by first | rfl | decide) ?_ (Nat.le_of_ble_eq_true rfl) (Nat.le_of_ble_eq_true rfl)
  exact ⟨rfl, rfl, rfl⟩
theorem d3_0 : decode jdk_42_method_149_code 0 = .ok (.aload_n 0, 1) := by decide +kernel
theorem d3_1 : decode jdk_42_method_149_code 1 = .ok (.invokespecial 1, 3) := by decide +kernel
theorem d3_4 : decode jdk_42_method_149_code 4 = .ok (.iload_n 3, 1) := by decide +kernel
theorem d3_5 : decode jdk_42_method_149_code 5 = .ok (.ifCond .ne 22, 3) := by decide +kernel
theorem d3_27 : decode jdk_42_method_149_code 27 = .ok (.getstatic 38, 3) := by decide +kernel
theorem d3_30 : decode jdk_42_method_149_code 30 = .ok (.ifCond .eq 28, 3) := by decide +kernel
theorem d3_33 : decode jdk_42_method_149_code 33 = .ok (.aload_n 1, 1) := by decide +kernel
theorem d3_34 : decode jdk_42_method_149_code 34 = .ok (.iload_n 2, 1) := by decide +kernel
theorem d3_35 : decode jdk_42_method_149_code 35 = .ok (.iload_n 3, 1) := by decide +kernel
theorem d3_36 : decode jdk_42_method_149_code 36 = .ok (.invokestatic 177, 3) := by decide +kernel
theorem pd_86865603 : parseMethodDescriptor "([CII)[B" = some ⟨[(.array .char), .int, .int], some (.array .byte)⟩ := by decide +kernel
theorem d3_39 : decode jdk_42_method_149_code 39 = .ok (.astore 5, 2) := by decide +kernel
theorem d3_41 : decode jdk_42_method_149_code 41 = .ok (.aload_n 0, 1) := by decide +kernel
theorem d3_42 : decode jdk_42_method_149_code 42 = .ok (.aload 5, 2) := by decide +kernel
theorem d3_44 : decode jdk_42_method_149_code 44 = .ok (.iload_n 3, 1) := by decide +kernel
theorem d3_45 : decode jdk_42_method_149_code 45 = .ok (.invokestatic 47, 3) := by decide +kernel
theorem pd_7843550 : parseMethodDescriptor "([BI)B" = some ⟨[(.array .byte), .int], some .byte⟩ := by decide +kernel
theorem d3_48 : decode jdk_42_method_149_code 48 = .ok (.putfield 15, 3) := by decide +kernel
theorem d3_51 : decode jdk_42_method_149_code 51 = .ok (.aload_n 0, 1) := by decide +kernel
theorem d3_52 : decode jdk_42_method_149_code 52 = .ok (.aload 5, 2) := by decide +kernel
theorem d3_54 : decode jdk_42_method_149_code 54 = .ok (.putfield 9, 3) := by decide +kernel
theorem d3_57 : decode jdk_42_method_149_code 57 = .ok (.return_, 1) := by decide +kernel
theorem pn_33051558 : plainFor (⟨"java/lang/String", "<init>", "([CIILjava/lang/Void;)V"⟩ : MethodName) = true := by first | exact plainFor_of_name (by first | (simp [plainName, overriddenIn]; done) | decide +kernel) | decide +kernel
set_option maxRecDepth 65536 in
set_option maxHeartbeats 4000000 in
theorem ct_void (G : Own.Gx) (hw : ∀ d ∈ tables_1, d.before G.a0 G.Z = true) (hC : Own.CSt G) {As : List Own.Ent} {Li : List Own.LitE} (s c : Addr) (cs : List Int32) (N : Nat) (hpos : 0 < cs.length) (hN : cs.length ≤ N) (hN4 : N ≤ 4000) (hch : ∀ z ∈ cs, ¬ (255 : Int32) < z) (hm : Own.AVin G As c .char (cs.map Value.int)) :
    Own.Ct G [] (⟨"java/lang/String", "<init>", "([CIILjava/lang/Void;)V"⟩ : MethodName) jdk_42_method_149_code 6 none ({ frames := 2, cells := 1, slots := N, locals := 35 } : Room) [.ref s, .ref c, .int 0, .int cs.length.toInt32, .null] ((s, true, Own.obj "java/lang/String" F_java_lang_String [.int 0, .null]) :: As) Li (fun v A L => ∃ b, v = none ∧ A = (b, true, Own.arr .byte (cs.map Own.byt)) :: (s, true, Own.obj "java/lang/String" F_java_lang_String [.int 0, .ref b]) :: As ∧ L = Li) := by
  refine Own.Ct.intro pn_33051558 (Ls := [.val (.ref s), .val (.ref c), .val (.int 0), .val (.int cs.length.toInt32), .val (.null), .unset]) rfl rfl ?_
  intro K
  obtain ⟨cz, hC1, hC2⟩ := hC
  refine Own.W.aloadN (pc := 0) d3_0 rfl rfl ?_
  refine Own.W.callO (pc := 1) d3_1 (hw _ (List.mem_of_getElem? (i := 15) rfl)) (hw _ (List.mem_of_getElem? (i := 16) rfl)) (hw _ (List.mem_of_getElem? (i := 17) rfl)) (Nat.le_of_ble_eq_true rfl) (Nat.le_of_ble_eq_true rfl) ?_
  refine Own.W.iloadN (pc := 4) d3_4 rfl ?_
  refine Own.W.if_ne (pc := 5) 27 d3_5 (by decide) (by decide) ?_ (fun h5 => absurd h5 (Own.n_ne0 hpos (by omega)))
  intro h5
  refine Own.W.getS (pc := 27) (host := "") (Or.inl (hw _ (List.mem_of_getElem? (i := 18) rfl))) (Via.refl (O := "java/lang/String")) d3_27 hC1 ?_
  refine Own.W.if_eq (pc := 30) 58 d3_30 (by decide) (by decide) (fun h30 => absurd h30 hC2) ?_
  intro h30
  refine Own.W.aloadN (pc := 33) d3_33 rfl rfl ?_
  refine Own.W.iloadN (pc := 34) d3_34 rfl ?_
  refine Own.W.iloadN (pc := 35) d3_35 rfl ?_
  refine Own.W.callS (pc := 36) (ct_cmp2 G hw c cs N hN hN4 hch (hm.sub (Own.Sub.cons (Own.Sub.refl _)))) d3_36 (hw _ (List.mem_of_getElem? (i := 19) rfl)) (hw _ (List.mem_of_getElem? (i := 20) rfl)) (hw _ (List.mem_of_getElem? (i := 21) rfl)) (hw _ (List.mem_of_getElem? (i := 22) rfl)) (by decide) pd_86865603 rfl rfl (Nat.le_of_ble_eq_true rfl) (Nat.le_of_ble_eq_true rfl) (by first | exact Nat.le_of_ble_eq_true rfl | (simp; done) | (simp; omega)) (by first | exact Nat.le_of_ble_eq_true rfl | (simp; done) | (simp; omega)) ?_
  rintro _ _ _ ⟨b, rfl, rfl, rfl⟩
  refine Own.W.astore (pc := 39) (Ls' := [_, _, _, _, _, _]) d3_39 rfl rfl rfl ?_
  refine Own.W.aloadN (pc := 41) d3_41 rfl rfl ?_
  refine Own.W.aload (pc := 42) d3_42 rfl rfl ?_
  refine Own.W.iloadN (pc := 44) d3_44 rfl ?_
  refine Own.W.callS (pc := 45) (ct_cod G hw b _ _ (Own.AVin.mem (List.Mem.head _)) (by simp)) d3_45 (hw _ (List.mem_of_getElem? (i := 27) rfl)) (hw _ (List.mem_of_getElem? (i := 28) rfl)) (hw _ (List.mem_of_getElem? (i := 21) rfl)) (hw _ (List.mem_of_getElem? (i := 29) rfl)) (by decide) pd_7843550 rfl rfl (Nat.le_of_ble_eq_true rfl) (Nat.le_of_ble_eq_true rfl) (by first | exact Nat.le_of_ble_eq_true rfl | (simp; done) | (simp; omega)) (by first | exact Nat.le_of_ble_eq_true rfl | (simp; done) | (simp; omega)) ?_
  rintro _ _ _ ⟨rfl, rfl, rfl⟩
  refine Own.W.putN (pc := 48) (hw _ (List.mem_of_getElem? (i := 30) rfl)) (Via.refl (O := "java/lang/String")) d3_48 (Or.inr ⟨(hw _ (List.mem_of_getElem? (i := 31) rfl)), rfl, rfl⟩) (hw _ (List.mem_of_getElem? (i := 5) rfl)) (ty := .byte) (by decide) rfl (by first | rfl | decide) (by repeat (first | exact Own.Upd.head | exact Own.Upd.mid | apply Own.Upd.tail)) (by repeat (first | exact Own.FUp.head | apply Own.FUp.tail)) ?_
  refine Own.W.aloadN (pc := 51) d3_51 rfl rfl ?_
  refine Own.W.aload (pc := 52) d3_52 rfl rfl ?_
  refine Own.W.putF (pc := 54) (host := "") (Or.inl (hw _ (List.mem_of_getElem? (i := 32) rfl))) (Via.refl (O := "java/lang/String")) d3_54 (Or.inr ⟨(hw _ (List.mem_of_getElem? (i := 33) rfl)), rfl, rfl⟩) (hw _ (List.mem_of_getElem? (i := 5) rfl)) (ty := (.array .byte)) (by decide) rfl rfl (by repeat (first | exact Own.Upd.head | exact Own.Upd.mid | apply Own.Upd.tail)) (by repeat (first | exact Own.FUp.head | apply Own.FUp.tail)) ?_
  refine Own.W.vret (pc := 57) d3_57 rfl ?_ (Nat.le_of_ble_eq_true rfl) (by first | exact Nat.le_of_ble_eq_true rfl | (simp; done) | (simp; omega))
  exact ⟨b, rfl, rfl, rfl⟩
theorem d2_0 : decode jdk_42_method_3_code 0 = .ok (.aload_n 0, 1) := by decide +kernel
theorem d2_1 : decode jdk_42_method_3_code 1 = .ok (.aload_n 1, 1) := by decide +kernel
theorem d2_2 : decode jdk_42_method_3_code 2 = .ok (.iconst 0, 1) := by decide +kernel
theorem d2_3 : decode jdk_42_method_3_code 3 = .ok (.aload_n 1, 1) := by decide +kernel
theorem d2_4 : decode jdk_42_method_3_code 4 = .ok (.arraylength, 1) := by decide +kernel
theorem d2_5 : decode jdk_42_method_3_code 5 = .ok (.aconst_null, 1) := by decide +kernel
theorem d2_6 : decode jdk_42_method_3_code 6 = .ok (.invokespecial 27, 3) := by decide +kernel
theorem pd_91355479 : parseMethodDescriptor "([CIILjava/lang/Void;)V" = some ⟨[(.array .char), .int, .int, (.object "java/lang/Void")], none⟩ := by decide +kernel
theorem d2_9 : decode jdk_42_method_3_code 9 = .ok (.return_, 1) := by decide +kernel
theorem pn_55852025 : plainFor (⟨"java/lang/String", "<init>", "([C)V"⟩ : MethodName) = true := by first | exact plainFor_of_name (by first | (simp [plainName, overriddenIn]; done) | decide +kernel) | decide +kernel
set_option maxRecDepth 65536 in
set_option maxHeartbeats 4000000 in
theorem ct_str1 (G : Own.Gx) (hw : ∀ d ∈ tables_1, d.before G.a0 G.Z = true) (hC : Own.CSt G) {As : List Own.Ent} {Li : List Own.LitE} (s c : Addr) (cs : List Int32) (N : Nat) (hpos : 0 < cs.length) (hN : cs.length ≤ N) (hN4 : N ≤ 4000) (hch : ∀ z ∈ cs, ¬ (255 : Int32) < z) (hm : Own.AVin G As c .char (cs.map Value.int)) :
    Own.Ct G [] (⟨"java/lang/String", "<init>", "([C)V"⟩ : MethodName) jdk_42_method_3_code 2 none ({ frames := 3, cells := 1, slots := N, locals := 52 } : Room) [.ref s, .ref c] ((s, true, Own.obj "java/lang/String" F_java_lang_String [.int 0, .null]) :: As) Li (fun v A L => ∃ b, v = none ∧ A = (b, true, Own.arr .byte (cs.map Own.byt)) :: (s, true, Own.obj "java/lang/String" F_java_lang_String [.int 0, .ref b]) :: As ∧ L = Li) := by
  refine Own.Ct.intro pn_55852025 (Ls := [.val (.ref s), .val (.ref c)]) rfl rfl ?_
  intro K
  refine Own.W.aloadN (pc := 0) d2_0 rfl rfl ?_
  refine Own.W.aloadN (pc := 1) d2_1 rfl rfl ?_
  refine Own.W.iconst (pc := 2) (z := (0 : Int32)) d2_2 (by decide) ?_
  refine Own.W.aloadN (pc := 3) d2_3 rfl rfl ?_
  refine Own.W.alen (pc := 4) d2_4 (hm.sub (Own.Sub.cons (Own.Sub.refl _))) (z := cs.length.toInt32) (by simp) ?_
  refine Own.W.aconstNull (pc := 5) d2_5 ?_
  refine Own.W.callI (pc := 6) (ct_void G hw hC s c cs N hpos hN hN4 hch hm) d2_6 rfl (hw _ (List.mem_of_getElem? (i := 11) rfl)) (hw _ (List.mem_of_getElem? (i := 12) rfl)) (hw _ (List.mem_of_getElem? (i := 6) rfl)) (hw _ (List.mem_of_getElem? (i := 14) rfl)) (by decide) pd_91355479 rfl rfl (Nat.le_of_ble_eq_true rfl) (Nat.le_of_ble_eq_true rfl) (by first | exact Nat.le_of_ble_eq_true rfl | (simp; done) | (simp; omega)) (by first | exact Nat.le_of_ble_eq_true rfl | (simp; done) | (simp; omega)) ?_
  rintro _ _ _ ⟨b, rfl, rfl, rfl⟩
  refine Own.W.vret (pc := 9) d2_9 rfl ?_ (Nat.le_of_ble_eq_true rfl) (by first | exact Nat.le_of_ble_eq_true rfl | (simp; done) | (simp; omega))
  exact ⟨b, rfl, rfl, rfl⟩
theorem d9_0 : decode jdk_43_method_13_code 0 = .ok (.aload_n 0, 1) := by decide +kernel
theorem d9_1 : decode jdk_43_method_13_code 1 = .ok (.arraylength, 1) := by decide +kernel
theorem d9_2 : decode jdk_43_method_13_code 2 = .ok (.aload_n 1, 1) := by decide +kernel
theorem d9_3 : decode jdk_43_method_13_code 3 = .ok (.arraylength, 1) := by decide +kernel
theorem d9_4 : decode jdk_43_method_13_code 4 = .ok (.if_icmp .ne 30, 3) := by decide +kernel
theorem d9_7 : decode jdk_43_method_13_code 7 = .ok (.iconst 0, 1) := by decide +kernel
theorem d9_8 : decode jdk_43_method_13_code 8 = .ok (.istore_n 2, 1) := by decide +kernel
theorem d9_9 : decode jdk_43_method_13_code 9 = .ok (.iload_n 2, 1) := by decide +kernel
theorem d9_10 : decode jdk_43_method_13_code 10 = .ok (.aload_n 0, 1) := by decide +kernel
theorem d9_11 : decode jdk_43_method_13_code 11 = .ok (.arraylength, 1) := by decide +kernel
theorem d9_12 : decode jdk_43_method_13_code 12 = .ok (.if_icmp .ge 20, 3) := by decide +kernel
theorem d9_32 : decode jdk_43_method_13_code 32 = .ok (.iconst 1, 1) := by decide +kernel
theorem d9_33 : decode jdk_43_method_13_code 33 = .ok (.ireturn, 1) := by decide +kernel
theorem d9_15 : decode jdk_43_method_13_code 15 = .ok (.aload_n 0, 1) := by decide +kernel
theorem d9_16 : decode jdk_43_method_13_code 16 = .ok (.iload_n 2, 1) := by decide +kernel
theorem d9_17 : decode jdk_43_method_13_code 17 = .ok (.baload, 1) := by decide +kernel
theorem d9_18 : decode jdk_43_method_13_code 18 = .ok (.aload_n 1, 1) := by decide +kernel
theorem d9_19 : decode jdk_43_method_13_code 19 = .ok (.iload_n 2, 1) := by decide +kernel
theorem d9_20 : decode jdk_43_method_13_code 20 = .ok (.baload, 1) := by decide +kernel
theorem d9_21 : decode jdk_43_method_13_code 21 = .ok (.if_icmp .eq 5, 3) := by decide +kernel
theorem d9_26 : decode jdk_43_method_13_code 26 = .ok (.iinc 2 1, 3) := by decide +kernel
theorem d9_29 : decode jdk_43_method_13_code 29 = .ok (.goto (-20), 3) := by decide +kernel
theorem d9_24 : decode jdk_43_method_13_code 24 = .ok (.iconst 0, 1) := by decide +kernel
theorem d9_25 : decode jdk_43_method_13_code 25 = .ok (.ireturn, 1) := by decide +kernel
theorem d9_34 : decode jdk_43_method_13_code 34 = .ok (.iconst 0, 1) := by decide +kernel
theorem d9_35 : decode jdk_43_method_13_code 35 = .ok (.ireturn, 1) := by decide +kernel
theorem pn_94709727 : plainFor (⟨"java/lang/StringLatin1", "equals", "([B[B)Z"⟩ : MethodName) = true := by first | exact plainFor_of_name (by first | (simp [plainName, overriddenIn]; done) | decide +kernel) | decide +kernel
set_option maxRecDepth 65536 in
set_option maxHeartbeats 4000000 in
theorem ct_leq (G : Own.Gx) (hw : ∀ d ∈ tables_1, d.before G.a0 G.Z = true) {As : List Own.Ent} {Li : List Own.LitE} (a b : Addr) (xs zs : List Int32) (hx : xs.length < 2147483648) (hz : zs.length < 2147483648) (ha : Own.AVin G As a .byte (xs.map Value.int)) (hb : Own.AVin G As b .byte (zs.map Value.int)) :
    Own.Ct G [] (⟨"java/lang/StringLatin1", "equals", "([B[B)Z"⟩ : MethodName) jdk_43_method_13_code 3 (some .boolean) ({ frames := 0, cells := 0, slots := 0, locals := 0 } : Room) [.ref a, .ref b] As Li (fun v A L => v = some (.int (Own.eqI xs zs)) ∧ As = A ∧ Li = L) := by
  refine Own.Ct.intro pn_94709727 (Ls := [.val (.ref a), .val (.ref b), .unset]) rfl rfl ?_
  intro K
  refine Own.W.aloadN (pc := 0) d9_0 rfl rfl ?_
  refine Own.W.alen (pc := 1) d9_1 ha (z := xs.length.toInt32) (by simp) ?_
  refine Own.W.aloadN (pc := 2) d9_2 rfl rfl ?_
  refine Own.W.alen (pc := 3) d9_3 hb (z := zs.length.toInt32) (by simp) ?_
  by_cases hl : xs.length = zs.length
  · refine Own.W.ic_ne (pc := 4) 34 d9_4 (by decide) (by decide) (fun h4 => absurd h4 (fun q => q (by rw [hl]))) ?_
    intro h4
    refine Own.W.iconst (pc := 7) (z := (0 : Int32)) d9_7 (by decide) ?_
    refine Own.W.istoreN (pc := 8) (Ls' := [_, _, _]) d9_8 rfl rfl ?_
    suffices loop : ∀ (m k : Nat), k + m = xs.length → (∀ j (h1 : j < xs.length) (h2 : j < zs.length), j < k → xs[j] = zs[j]) → Own.W G K (⟨"java/lang/StringLatin1", "equals", "([B[B)Z"⟩ : MethodName) jdk_43_method_13_code (some .boolean) ({ frames := 0, cells := 0, slots := 0, locals := 0 } : Room) (fun v A L => v = some (.int (Own.eqI xs zs)) ∧ As = A ∧ Li = L) As Li 0 0 9 [.val (.ref a), .val (.ref b), .val (.int k.toInt32)] [] by
      exact loop xs.length 0 (by simp) (fun _ _ _ h => absurd h (Nat.not_lt_zero _))
    intro m
    induction m with
    | zero =>
      intro k hk hall
      obtain rfl : k = xs.length := by omega
      refine Own.W.iloadN (pc := 9) d9_9 rfl ?_
      refine Own.W.aloadN (pc := 10) d9_10 rfl rfl ?_
      refine Own.W.alen (pc := 11) d9_11 ha (z := xs.length.toInt32) (by simp) ?_
      refine Own.W.ic_ge (pc := 12) 32 d9_12 (by decide) (by decide) ?_ (fun h12 => absurd h12 (Own.n_nlt (Nat.le_refl _) hx))
      intro h12
      refine Own.W.iconst (pc := 32) (z := (1 : Int32)) d9_32 (by decide) ?_
      refine Own.W.iret (pc := 33) d9_33 rfl (by simp) (by first | rfl | decide) ?_ (Nat.le_of_ble_eq_true rfl) (Nat.le_of_ble_eq_true rfl)
      exact ⟨by rw [Own.eqI_all hl fun k h1 h2 => hall k h1 h2 h1], rfl, rfl⟩
    | succ m ih =>
      intro k hk hall
      have hkx : k < xs.length := by omega
      have hkz : k < zs.length := by omega
      refine Own.W.iloadN (pc := 9) d9_9 rfl ?_
      refine Own.W.aloadN (pc := 10) d9_10 rfl rfl ?_
      refine Own.W.alen (pc := 11) d9_11 ha (z := xs.length.toInt32) (by simp) ?_
      refine Own.W.ic_ge (pc := 12) 32 d9_12 (by decide) (by decide) (fun h12 => absurd h12 (fun q => q (Own.n_lt hkx hx))) ?_
      intro h12
      refine Own.W.aloadN (pc := 15) d9_15 rfl rfl ?_
      refine Own.W.iloadN (pc := 16) d9_16 rfl ?_
      refine Own.W.baload (pc := 17) d9_17 ha (Own.n_nn (by omega)) (v := .int xs[k]) (by rw [Own.n_clamp (by omega)]; simp [hkx]) ?_
      refine Own.W.aloadN (pc := 18) d9_18 rfl rfl ?_
      refine Own.W.iloadN (pc := 19) d9_19 rfl ?_
      refine Own.W.baload (pc := 20) d9_20 hb (Own.n_nn (by omega)) (v := .int zs[k]) (by rw [Own.n_clamp (by omega)]; simp [hkz]) ?_
      refine Own.W.ic_eq (pc := 21) 26 d9_21 (by decide) (by decide) ?_ ?_
      · intro h21
        refine Own.W.iinc (pc := 26) (z := (1 : Int32)) (Ls' := [_, _, _]) d9_26 rfl (by decide) rfl rfl ?_
        refine Own.W.goto (pc := 29) 9 d9_29 (by decide) (by decide) ?_
        have ih' := ih (k + 1) (by omega) (fun j h1 h2 hj => by
          rcases Nat.lt_or_eq_of_le (Nat.le_of_lt_succ hj) with q | rfl
          · exact hall j h1 h2 q
          · exact h21)
        rw [← Own.n_succ] at ih'
        exact ih'
      · intro h21
        refine Own.W.iconst (pc := 24) (z := (0 : Int32)) d9_24 (by decide) ?_
        refine Own.W.iret (pc := 25) d9_25 rfl (by simp) (by first | rfl | decide) ?_ (Nat.le_of_ble_eq_true rfl) (Nat.le_of_ble_eq_true rfl)
        exact ⟨by rw [Own.eqI_at hkx hkz h21], rfl, rfl⟩
  · refine Own.W.ic_ne (pc := 4) 34 d9_4 (by decide) (by decide) ?_ (fun h4 => absurd h4 (fun q => hl (Own.n_inj hx hz q)))
    intro h4
    refine Own.W.iconst (pc := 34) (z := (0 : Int32)) d9_34 (by decide) ?_
    refine Own.W.iret (pc := 35) d9_35 rfl (by simp) (by first | rfl | decide) ?_ (Nat.le_of_ble_eq_true rfl) (Nat.le_of_ble_eq_true rfl)
    exact ⟨by rw [Own.eqI_len hl], rfl, rfl⟩
theorem d8_0 : decode jdk_42_method_66_code 0 = .ok (.aload_n 0, 1) := by decide +kernel
theorem d8_1 : decode jdk_42_method_66_code 1 = .ok (.aload_n 1, 1) := by decide +kernel
theorem d8_2 : decode jdk_42_method_66_code 2 = .ok (.if_acmp .ne 5, 3) := by decide +kernel
theorem d8_5 : decode jdk_42_method_66_code 5 = .ok (.iconst 1, 1) := by decide +kernel
theorem d8_6 : decode jdk_42_method_66_code 6 = .ok (.ireturn, 1) := by decide +kernel
theorem d8_7 : decode jdk_42_method_66_code 7 = .ok (.aload_n 1, 1) := by decide +kernel
theorem d8_8 : decode jdk_42_method_66_code 8 = .ok (.instanceof 10, 3) := by decide +kernel
theorem d8_11 : decode jdk_42_method_66_code 11 = .ok (.ifCond .eq 43, 3) := by decide +kernel
theorem d8_14 : decode jdk_42_method_66_code 14 = .ok (.aload_n 1, 1) := by decide +kernel
theorem d8_15 : decode jdk_42_method_66_code 15 = .ok (.checkcast 10, 3) := by decide +kernel
theorem d8_18 : decode jdk_42_method_66_code 18 = .ok (.astore_n 2, 1) := by decide +kernel
theorem d8_19 : decode jdk_42_method_66_code 19 = .ok (.getstatic 38, 3) := by decide +kernel
theorem d8_22 : decode jdk_42_method_66_code 22 = .ok (.ifCond .eq 14, 3) := by decide +kernel
theorem d8_25 : decode jdk_42_method_66_code 25 = .ok (.aload_n 0, 1) := by decide +kernel
theorem d8_26 : decode jdk_42_method_66_code 26 = .ok (.getfield 15, 3) := by decide +kernel
theorem d8_29 : decode jdk_42_method_66_code 29 = .ok (.aload_n 2, 1) := by decide +kernel
theorem d8_30 : decode jdk_42_method_66_code 30 = .ok (.getfield 15, 3) := by decide +kernel
theorem d8_33 : decode jdk_42_method_66_code 33 = .ok (.if_icmp .ne 21, 3) := by decide +kernel
theorem d8_36 : decode jdk_42_method_66_code 36 = .ok (.aload_n 0, 1) := by decide +kernel
theorem d8_37 : decode jdk_42_method_66_code 37 = .ok (.getfield 9, 3) := by decide +kernel
theorem d8_40 : decode jdk_42_method_66_code 40 = .ok (.aload_n 2, 1) := by decide +kernel
theorem d8_41 : decode jdk_42_method_66_code 41 = .ok (.getfield 9, 3) := by decide +kernel
theorem d8_44 : decode jdk_42_method_66_code 44 = .ok (.invokestatic 541, 3) := by decide +kernel
theorem pd_24935658 : parseMethodDescriptor "([B[B)Z" = some ⟨[(.array .byte), (.array .byte)], some .boolean⟩ := by decide +kernel
theorem d8_47 : decode jdk_42_method_66_code 47 = .ok (.ifCond .eq 7, 3) := by decide +kernel
theorem d8_50 : decode jdk_42_method_66_code 50 = .ok (.iconst 1, 1) := by decide +kernel
theorem d8_51 : decode jdk_42_method_66_code 51 = .ok (.goto 4, 3) := by decide +kernel
theorem d8_55 : decode jdk_42_method_66_code 55 = .ok (.ireturn, 1) := by decide +kernel
theorem d8_54 : decode jdk_42_method_66_code 54 = .ok (.iconst 0, 1) := by decide +kernel
theorem pn_54399388 : plainFor (⟨"java/lang/String", "equals", "(Ljava/lang/Object;)Z"⟩ : MethodName) = true := by first | exact plainFor_of_name (by first | (simp [plainName, overriddenIn]; done) | decide +kernel) | decide +kernel
set_option maxRecDepth 65536 in
set_option maxHeartbeats 4000000 in
theorem ct_seq (G : Own.Gx) (hw : ∀ d ∈ tables_1, d.before G.a0 G.Z = true) (hC : Own.CSt G) {As : List Own.Ent} {Li : List Own.LitE} (a b : Addr) (xs zs : List Int32) (hx : xs.length < 2147483648) (hz : zs.length < 2147483648) (ha : Own.StrIn G As a (xs.map Value.int) 0) (hb : Own.StrIn G As b (zs.map Value.int) 0) :
    Own.Ct G [] (⟨"java/lang/String", "equals", "(Ljava/lang/Object;)Z"⟩ : MethodName) jdk_42_method_66_code 3 (some .boolean) ({ frames := 1, cells := 0, slots := 0, locals := 14 } : Room) [.ref a, .ref b] As Li (fun v A L => v = some (.int (Own.eqI xs zs)) ∧ As = A ∧ Li = L) := by
  refine Own.Ct.intro pn_54399388 (Ls := [.val (.ref a), .val (.ref b), .unset]) rfl rfl ?_
  intro K
  obtain ⟨cz, hC1, hC2⟩ := hC
  obtain ⟨ab, a1, a2, a3, a4⟩ := id ha
  obtain ⟨bb, b1, b2, b3, b4⟩ := id hb
  refine Own.W.aloadN (pc := 0) d8_0 rfl rfl ?_
  refine Own.W.aloadN (pc := 1) d8_1 rfl rfl ?_
  by_cases hab : a = b
  · subst hab
    refine Own.W.know fun h I => ?_
    obtain rfl : xs = zs := Own.map_int_inj (ha.uniq I hb)
    refine Own.W.ac0 (pc := 2) d8_2 rfl rfl (by simp [Jvm.Free.XT.acmp]) ?_
    refine Own.W.iconst (pc := 5) (z := (1 : Int32)) d8_5 (by decide) ?_
    refine Own.W.iret (pc := 6) d8_6 rfl (by simp) (by first | rfl | decide) ?_ (Nat.le_of_ble_eq_true rfl) (Nat.le_of_ble_eq_true rfl)
    exact ⟨by rw [Own.eqI_self], rfl, rfl⟩
  · refine Own.W.ac1 (pc := 2) 7 d8_2 (by decide) (by decide) rfl rfl (by simp [Jvm.Free.XT.acmp, hab]) ?_
    refine Own.W.aloadN (pc := 7) d8_7 rfl rfl ?_
    refine Own.W.inst (pc := 8) (hw _ (List.mem_of_getElem? (i := 42) rfl)) d8_8 b1 (Or.inl rfl) ?_
    refine Own.W.if_eq (pc := 11) 54 d8_11 (by decide) (by decide) (fun h11 => absurd h11 (by decide)) ?_
    intro h11
    refine Own.W.aloadN (pc := 14) d8_14 rfl rfl ?_
    refine Own.W.cast (pc := 15) (hw _ (List.mem_of_getElem? (i := 42) rfl)) d8_15 b1 (Or.inl rfl) ?_
    refine Own.W.astoreN (pc := 18) (Ls' := [_, _, _]) d8_18 rfl rfl rfl ?_
    refine Own.W.getS (pc := 19) (host := "") (Or.inl (hw _ (List.mem_of_getElem? (i := 18) rfl))) (Via.refl (O := "java/lang/String")) d8_19 hC1 ?_
    refine Own.W.if_eq (pc := 22) 36 d8_22 (by decide) (by decide) (fun h22 => absurd h22 hC2) ?_
    intro h22
    refine Own.W.aloadN (pc := 25) d8_25 rfl rfl ?_
    refine Own.W.getI (pc := 26) (host := "") (Or.inl (hw _ (List.mem_of_getElem? (i := 30) rfl))) (Via.refl (O := "java/lang/String")) d8_26 a3 ?_
    refine Own.W.aloadN (pc := 29) d8_29 rfl rfl ?_
    refine Own.W.getI (pc := 30) (host := "") (Or.inl (hw _ (List.mem_of_getElem? (i := 30) rfl))) (Via.refl (O := "java/lang/String")) d8_30 b3 ?_
    refine Own.W.ic_ne (pc := 33) 54 d8_33 (by decide) (by decide) (fun h33 => absurd h33 (fun q => q rfl)) ?_
    intro h33
    refine Own.W.aloadN (pc := 36) d8_36 rfl rfl ?_
    refine Own.W.getI (pc := 37) (host := "") (Or.inl (hw _ (List.mem_of_getElem? (i := 32) rfl))) (Via.refl (O := "java/lang/String")) d8_37 a2 ?_
    refine Own.W.aloadN (pc := 40) d8_40 rfl rfl ?_
    refine Own.W.getI (pc := 41) (host := "") (Or.inl (hw _ (List.mem_of_getElem? (i := 32) rfl))) (Via.refl (O := "java/lang/String")) d8_41 b2 ?_
    refine Own.W.callS (pc := 44) (ct_leq G hw ab bb xs zs hx hz a4 b4) d8_44 (hw _ (List.mem_of_getElem? (i := 43) rfl)) (hw _ (List.mem_of_getElem? (i := 44) rfl)) (hw _ (List.mem_of_getElem? (i := 45) rfl)) (hw _ (List.mem_of_getElem? (i := 46) rfl)) (by decide) pd_24935658 rfl rfl (Nat.le_of_ble_eq_true rfl) (Nat.le_of_ble_eq_true rfl) (Nat.le_of_ble_eq_true rfl) (Nat.le_of_ble_eq_true rfl) ?_
    rintro _ _ _ ⟨rfl, rfl, rfl⟩
    by_cases he : xs = zs
    · have e1 : Own.eqI xs zs = 1 := if_pos he
      rw [e1]
      refine Own.W.if_eq (pc := 47) 54 d8_47 (by decide) (by decide) (fun h47 => absurd h47 (by decide)) ?_
      intro h47
      refine Own.W.iconst (pc := 50) (z := (1 : Int32)) d8_50 (by decide) ?_
      refine Own.W.goto (pc := 51) 55 d8_51 (by decide) (by decide) ?_
      refine Own.W.iret (pc := 55) d8_55 rfl (by simp) (by first | rfl | decide) ?_ (Nat.le_of_ble_eq_true rfl) (Nat.le_of_ble_eq_true rfl)
      exact ⟨by first | rfl | rw [e1], rfl, rfl⟩
    · have e1 : Own.eqI xs zs = 0 := if_neg he
      rw [e1]
      refine Own.W.if_eq (pc := 47) 54 d8_47 (by decide) (by decide) ?_ (fun h47 => absurd h47 (fun q => q rfl))
      intro h47
      refine Own.W.iconst (pc := 54) (z := (0 : Int32)) d8_54 (by decide) ?_
      refine Own.W.iret (pc := 55) d8_55 rfl (by simp) (by first | rfl | decide) ?_ (Nat.le_of_ble_eq_true rfl) (Nat.le_of_ble_eq_true rfl)
      exact ⟨by first | rfl | rw [e1], rfl, rfl⟩
theorem d31_0 : decode jdk_29_method_69_code 0 = .ok (.iload_n 0, 1) := by decide +kernel
theorem d31_1 : decode jdk_29_method_69_code 1 = .ok (.iload_n 1, 1) := by decide +kernel
theorem d31_2 : decode jdk_29_method_69_code 2 = .ok (.if_icmp .gt 7, 3) := by decide +kernel
theorem d31_9 : decode jdk_29_method_69_code 9 = .ok (.iload_n 1, 1) := by decide +kernel
theorem d31_10 : decode jdk_29_method_69_code 10 = .ok (.ireturn, 1) := by decide +kernel
theorem d31_5 : decode jdk_29_method_69_code 5 = .ok (.iload_n 0, 1) := by decide +kernel
theorem d31_6 : decode jdk_29_method_69_code 6 = .ok (.goto 4, 3) := by decide +kernel
theorem pn_47292969 : plainFor (⟨"java/lang/Math", "min", "(II)I"⟩ : MethodName) = true := by first | exact plainFor_of_name (by first | (simp [plainName, overriddenIn]; done) | decide +kernel) | decide +kernel
set_option maxRecDepth 65536 in
set_option maxHeartbeats 4000000 in
theorem ct_min (G : Own.Gx) (hw : ∀ d ∈ tables_1, d.before G.a0 G.Z = true) {As : List Own.Ent} {Li : List Own.LitE} (a b : Nat) (ha : a < 2147483648) (hb : b < 2147483648) :
    Own.Ct G [] (⟨"java/lang/Math", "min", "(II)I"⟩ : MethodName) jdk_29_method_69_code 2 (some .int) ({ frames := 0, cells := 0, slots := 0, locals := 0 } : Room) [.int a.toInt32, .int b.toInt32] As Li (fun v A L => v = some (.int (min a b).toInt32) ∧ As = A ∧ Li = L) := by
  refine Own.Ct.intro pn_47292969 (Ls := [.val (.int a.toInt32), .val (.int b.toInt32)]) rfl rfl ?_
  intro K
  refine Own.W.iloadN (pc := 0) d31_0 rfl ?_
  refine Own.W.iloadN (pc := 1) d31_1 rfl ?_
  refine Own.W.ic_gt (pc := 2) 9 d31_2 (by decide) (by decide) ?_ ?_
  · intro h2
    refine Own.W.iloadN (pc := 9) d31_9 rfl ?_
    refine Own.W.iret (pc := 10) d31_10 rfl (by simp) rfl ?_ (Nat.le_of_ble_eq_true rfl) (Nat.le_of_ble_eq_true rfl)
    exact ⟨by rw [Own.n_min ha hb h2], rfl, rfl⟩
  · intro h2
    refine Own.W.iloadN (pc := 5) d31_5 rfl ?_
    refine Own.W.goto (pc := 6) 10 d31_6 (by decide) (by decide) ?_
    refine Own.W.iret (pc := 10) d31_10 rfl (by simp) rfl ?_ (Nat.le_of_ble_eq_true rfl) (Nat.le_of_ble_eq_true rfl)
    exact ⟨by rw [Own.n_min' ha hb h2], rfl, rfl⟩
theorem own_txb0 : (Own.txb "").map Value.int = [] := by decide +kernel
theorem d3_8 : decode jdk_42_method_149_code 8 = .ok (.aload_n 0, 1) := by decide +kernel
theorem d3_9 : decode jdk_42_method_149_code 9 = .ok (.ldc 7, 2) := by decide +kernel
theorem d3_11 : decode jdk_42_method_149_code 11 = .ok (.getfield 9, 3) := by decide +kernel
theorem d3_14 : decode jdk_42_method_149_code 14 = .ok (.putfield 9, 3) := by decide +kernel
theorem d3_17 : decode jdk_42_method_149_code 17 = .ok (.aload_n 0, 1) := by decide +kernel
theorem d3_18 : decode jdk_42_method_149_code 18 = .ok (.ldc 7, 2) := by decide +kernel
theorem d3_20 : decode jdk_42_method_149_code 20 = .ok (.getfield 15, 3) := by decide +kernel
theorem d3_23 : decode jdk_42_method_149_code 23 = .ok (.putfield 15, 3) := by decide +kernel
theorem d3_26 : decode jdk_42_method_149_code 26 = .ok (.return_, 1) := by decide +kernel
set_option maxRecDepth 65536 in
set_option maxHeartbeats 4000000 in
theorem ct_voidA (G : Own.Gx) (hw : ∀ d ∈ tables_1, d.before G.a0 G.Z = true) (hnw : G.nw = false) (wS : ∀ a ∈ Bundle.stringAtoms, a.before G.a0 G.Z = true) (hcw : Jvm.Lit.compactW.before G.a0 G.Z = true) (hhs7 : Jvm.Lit.constHeld G.Z "java/lang/String" 7) {As : List Own.Ent} {Li : List Own.LitE} (s c : Addr) (hA : Own.LA As Li) :
    Own.Ct G [] (⟨"java/lang/String", "<init>", "([CIILjava/lang/Void;)V"⟩ : MethodName) jdk_42_method_149_code 6 none ({ frames := 1, cells := 2, slots := 4, locals := 12 } : Room) [.ref s, .ref c, .int 0, .int 0, .null] ((s, true, Own.obj "java/lang/String" F_java_lang_String [.int 0, .null]) :: As) Li (fun v A L => ∃ b A0, v = none ∧ A = (s, true, Own.obj "java/lang/String" F_java_lang_String [.int 0, .ref b]) :: A0 ∧ (b, false, Own.arr .byte []) ∈ A0 ∧ Own.Sub As A0 ∧ Own.LA A0 L) := by
  refine Own.Ct.intro pn_33051558 (Ls := [.val (.ref s), .val (.ref c), .val (.int 0), .val (.int 0), .val (.null), .unset]) rfl rfl ?_
  intro K
  refine Own.W.aloadN (pc := 0) d3_0 rfl rfl ?_
  refine Own.W.callO (pc := 1) d3_1 (hw _ (List.mem_of_getElem? (i := 15) rfl)) (hw _ (List.mem_of_getElem? (i := 16) rfl)) (hw _ (List.mem_of_getElem? (i := 17) rfl)) (Nat.le_of_ble_eq_true rfl) (Nat.le_of_ble_eq_true rfl) ?_
  refine Own.W.iloadN (pc := 4) d3_4 rfl ?_
  refine Own.W.if_ne (pc := 5) 27 d3_5 (by decide) (by decide) (fun h5 => absurd h5 (fun q => q rfl)) ?_
  intro h5
  refine Own.W.aloadN (pc := 8) d3_8 rfl rfl ?_
  refine Own.W.ldcG (pc := 9) (n := 0) (vs := (Own.txb "").map Value.int) hnw d3_9 (hw _ (List.mem_of_getElem? (i := 34) rfl)) wS hhs7 hcw (hA.cons1.g _) ⟨by decide +kernel, Own.txb_map _⟩ (by decide +kernel) (by decide) (Nat.le_of_ble_eq_true rfl) (Nat.le_of_ble_eq_true rfl) ?_
  intro a9 b9
  refine Own.W.getF (pc := 11) (host := "") (Or.inl (hw _ (List.mem_of_getElem? (i := 32) rfl))) (Via.refl (O := "java/lang/String")) d3_11 (by repeat (first | exact List.Mem.head _ | assumption | exact List.mem_append_right _ (List.Mem.head _) | apply List.Mem.tail)) (by repeat (first | exact Own.FAt.head | apply Own.FAt.tail)) ?_
  refine Own.W.putF (pc := 14) (host := "") (Or.inl (hw _ (List.mem_of_getElem? (i := 32) rfl))) (Via.refl (O := "java/lang/String")) d3_14 (Or.inr ⟨(hw _ (List.mem_of_getElem? (i := 33) rfl)), rfl, rfl⟩) (hw _ (List.mem_of_getElem? (i := 5) rfl)) (ty := (.array .byte)) (by decide) rfl rfl (by repeat (first | exact Own.Upd.head | exact Own.Upd.mid | apply Own.Upd.tail)) (by repeat (first | exact Own.FUp.head | apply Own.FUp.tail)) ?_
  refine Own.W.aloadN (pc := 17) d3_17 rfl rfl ?_
  refine Own.W.ldcA (pc := 18) d3_18 (hw _ (List.mem_of_getElem? (i := 34) rfl)) (List.Mem.head _) ?_
  refine Own.W.getF (pc := 20) (host := "") (Or.inl (hw _ (List.mem_of_getElem? (i := 30) rfl))) (Via.refl (O := "java/lang/String")) d3_20 (by repeat (first | exact List.Mem.head _ | assumption | exact List.mem_append_right _ (List.Mem.head _) | apply List.Mem.tail)) (by repeat (first | exact Own.FAt.head | apply Own.FAt.tail)) ?_
  refine Own.W.putN (pc := 23) (hw _ (List.mem_of_getElem? (i := 30) rfl)) (Via.refl (O := "java/lang/String")) d3_23 (Or.inr ⟨(hw _ (List.mem_of_getElem? (i := 31) rfl)), rfl, rfl⟩) (hw _ (List.mem_of_getElem? (i := 5) rfl)) (ty := .byte) (by decide) rfl (by first | rfl | decide) (by repeat (first | exact Own.Upd.head | exact Own.Upd.mid | apply Own.Upd.tail)) (by repeat (first | exact Own.FUp.head | apply Own.FUp.tail)) ?_
  refine Own.W.perm ?_ (List.perm_middle (l₁ := [_, _]))
  refine Own.W.vret (pc := 26) d3_26 rfl  ?_ (Nat.le_of_ble_eq_true rfl) (Nat.le_of_ble_eq_true rfl)
  exact ⟨b9, _, rfl, rfl, by rw [own_txb0]; exact List.Mem.tail _ (List.Mem.head _), (Own.Sub.cons (Own.Sub.cons (Own.Sub.refl _))), hA.lit⟩
set_option maxRecDepth 65536 in
set_option maxHeartbeats 4000000 in
theorem ct_strA (G : Own.Gx) (hw : ∀ d ∈ tables_1, d.before G.a0 G.Z = true) (hnw : G.nw = false) (wS : ∀ a ∈ Bundle.stringAtoms, a.before G.a0 G.Z = true) (hcw : Jvm.Lit.compactW.before G.a0 G.Z = true) (hhs7 : Jvm.Lit.constHeld G.Z "java/lang/String" 7) {As : List Own.Ent} {Li : List Own.LitE} (s c : Addr) (hA : Own.LA As Li) (hm : Own.AVin G As c .char []) :
    Own.Ct G [] (⟨"java/lang/String", "<init>", "([C)V"⟩ : MethodName) jdk_42_method_3_code 2 none ({ frames := 2, cells := 2, slots := 4, locals := 29 } : Room) [.ref s, .ref c] ((s, true, Own.obj "java/lang/String" F_java_lang_String [.int 0, .null]) :: As) Li (fun v A L => ∃ b A0, v = none ∧ A = (s, true, Own.obj "java/lang/String" F_java_lang_String [.int 0, .ref b]) :: A0 ∧ (b, false, Own.arr .byte []) ∈ A0 ∧ Own.Sub As A0 ∧ Own.LA A0 L) := by
  refine Own.Ct.intro pn_55852025 (Ls := [.val (.ref s), .val (.ref c)]) rfl rfl ?_
  intro K
  refine Own.W.aloadN (pc := 0) d2_0 rfl rfl ?_
  refine Own.W.aloadN (pc := 1) d2_1 rfl rfl ?_
  refine Own.W.iconst (pc := 2) (z := (0 : Int32)) d2_2 (by decide) ?_
  refine Own.W.aloadN (pc := 3) d2_3 rfl rfl ?_
  refine Own.W.alen (pc := 4) d2_4 (hm.sub (Own.Sub.cons (Own.Sub.refl _))) (z := 0) (by rfl) ?_
  refine Own.W.aconstNull (pc := 5) d2_5 ?_
  refine Own.W.callI (pc := 6) (ct_voidA G hw hnw wS hcw hhs7 s c hA) d2_6 rfl (hw _ (List.mem_of_getElem? (i := 11) rfl)) (hw _ (List.mem_of_getElem? (i := 12) rfl)) (hw _ (List.mem_of_getElem? (i := 6) rfl)) (hw _ (List.mem_of_getElem? (i := 14) rfl)) (by decide) pd_91355479 rfl rfl (Nat.le_of_ble_eq_true rfl) (Nat.le_of_ble_eq_true rfl) (Nat.le_of_ble_eq_true rfl) (Nat.le_of_ble_eq_true rfl) ?_
  rintro _ _ L1 ⟨b, A1, rfl, rfl, h1, h2, h3⟩
  refine Own.W.vret (pc := 9) d2_9 rfl  ?_ (Nat.le_of_ble_eq_true rfl) (Nat.le_of_ble_eq_true rfl)
  exact ⟨b, A1, rfl, rfl, h1, h2, h3⟩
theorem d28_0 : decode jdk_42_method_152_code 0 = .ok (.getstatic 38, 3) := by decide +kernel
theorem d28_3 : decode jdk_42_method_152_code 3 = .ok (.ifCond .eq 10, 3) := by decide +kernel
theorem d28_6 : decode jdk_42_method_152_code 6 = .ok (.aload_n 0, 1) := by decide +kernel
theorem d28_7 : decode jdk_42_method_152_code 7 = .ok (.getfield 15, 3) := by decide +kernel
theorem d28_10 : decode jdk_42_method_152_code 10 = .ok (.goto 4, 3) := by decide +kernel
theorem d28_14 : decode jdk_42_method_152_code 14 = .ok (.ireturn, 1) := by decide +kernel
theorem pn_39421446 : plainFor (⟨"java/lang/String", "coder", "()B"⟩ : MethodName) = true := by first | exact plainFor_of_name (by first | (simp [plainName, overriddenIn]; done) | decide +kernel) | decide +kernel
set_option maxRecDepth 65536 in
set_option maxHeartbeats 4000000 in
theorem ct_coder (G : Own.Gx) (hw : ∀ d ∈ tables_1, d.before G.a0 G.Z = true) (hC : Own.CSt G) {As : List Own.Ent} {Li : List Own.LitE} (a : Addr) (vs : List Value) (z : Int32) (hz : narrow .byte (.int z) = .int z) (ha : Own.StrIn G As a vs z) :
    Own.Ct G [] (⟨"java/lang/String", "coder", "()B"⟩ : MethodName) jdk_42_method_152_code 1 (some .byte) ({ frames := 0, cells := 0, slots := 0, locals := 0 } : Room) [.ref a] As Li (fun v A L => v = some (.int z) ∧ As = A ∧ Li = L) := by
  refine Own.Ct.intro pn_39421446 (Ls := [.val (.ref a)]) rfl rfl ?_
  intro K
  obtain ⟨cz, hC1, hC2⟩ := hC
  obtain ⟨ab, a1, a2, a3, a4⟩ := ha
  refine Own.W.getS (pc := 0) (host := "") (Or.inl (hw _ (List.mem_of_getElem? (i := 18) rfl))) (Via.refl (O := "java/lang/String")) d28_0 hC1 ?_
  refine Own.W.if_eq (pc := 3) 13 d28_3 (by decide) (by decide) (fun h3 => absurd h3 hC2) ?_
  intro h3
  refine Own.W.aloadN (pc := 6) d28_6 rfl rfl ?_
  refine Own.W.getI (pc := 7) (host := "") (Or.inl (hw _ (List.mem_of_getElem? (i := 30) rfl))) (Via.refl (O := "java/lang/String")) d28_7 a3 ?_
  refine Own.W.goto (pc := 10) 14 d28_10 (by decide) (by decide) ?_
  refine Own.W.iret (pc := 14) d28_14 rfl (by simp) hz ?_ (Nat.le_of_ble_eq_true rfl) (Nat.le_of_ble_eq_true rfl)
  exact ⟨rfl, rfl, rfl⟩
abbrev ush (x k : Int32) : Int32 := (x.toUInt32 >>> (k &&& 31).toUInt32).toInt32
theorem own_ch {x : Int32} (h : x &&& 255 = x) : ¬ (255 : Int32) < x := by
  have q := c_mask x 255 8 (by decide) (by decide)
  rw [h] at q
  rw [Int32.lt_iff_toInt_lt, q]
  have h2 : (255 : Int32).toInt = 255 := rfl
  omega
theorem own_id (x : Int32) : (x &&& 255) &&& 255 = x &&& 255 := by
  have q := c_mask x 255 8 (by decide) (by decide)
  have r := c_mask (x &&& 255) 255 8 (by decide) (by decide)
  exact Int32.toInt_inj.mp (by omega)
theorem own_back {x : Int32} (h : x &&& 255 = x) : x.toInt8.toInt32 &&& 255 = x := by
  have q := c_mask x 255 8 (by decide) (by decide)
  have r := c_mask x.toInt8.toInt32 255 8 (by decide) (by decide)
  have b := (c_i2b x).1
  rw [h] at q
  exact Int32.toInt_inj.mp (by omega)
theorem own_nar {x : Int32} (h : x &&& 255 = x) : nar .char x = x := by rw [← h]; exact i2c_mask x
abbrev own_by (cs : List Int32) : List Int32 := cs.map fun z => z.toInt8.toInt32
theorem own_by_map (cs : List Int32) : cs.map Own.byt = (own_by cs).map Value.int := by simp [own_by, List.map_map, Function.comp_def]
def own_mk (p n : Int32) : List Int32 := if n = 0 then [] else if n = 1 then [p &&& 255] else if n = 2 then [p &&& 255, ush p 8 &&& 255] else [p &&& 255, ush p 8 &&& 255, ush p 16 &&& 255]
theorem own_mk_len (p n : Int32) : (own_mk p n).length ≤ 3 := by unfold own_mk; split; simp; split; simp; split <;> simp
theorem own_mk_b (p n : Int32) : ∀ z ∈ own_mk p n, z &&& 255 = z := by
  have h : ∀ z ∈ [p &&& 255, ush p 8 &&& 255, ush p 16 &&& 255], z &&& 255 = z := fun z hz => by
    simp only [List.mem_cons, List.not_mem_nil, or_false] at hz
    rcases hz with rfl | rfl | rfl <;> exact own_id _
  intro z hz
  unfold own_mk at hz
  split at hz
  · exact nomatch hz
  split at hz
  · exact h z (by simp at hz; simp [hz])
  split at hz
  · exact h z (by simp at hz; rcases hz with r | r <;> simp [r])
  · exact h z hz
theorem d1_0 : decode method_2_code 0 = .ok (.iload_n 0, 1) := by decide +kernel
theorem d1_1 : decode method_2_code 1 = .ok (.sipush 255, 3) := by decide +kernel
theorem d1_4 : decode method_2_code 4 = .ok (.iand, 1) := by decide +kernel
theorem d1_5 : decode method_2_code 5 = .ok (.i2c, 1) := by decide +kernel
theorem d1_6 : decode method_2_code 6 = .ok (.istore_n 2, 1) := by decide +kernel
theorem d1_7 : decode method_2_code 7 = .ok (.iload_n 0, 1) := by decide +kernel
theorem d1_8 : decode method_2_code 8 = .ok (.bipush 8, 2) := by decide +kernel
theorem d1_10 : decode method_2_code 10 = .ok (.iushr, 1) := by decide +kernel
theorem d1_11 : decode method_2_code 11 = .ok (.sipush 255, 3) := by decide +kernel
theorem d1_14 : decode method_2_code 14 = .ok (.iand, 1) := by decide +kernel
theorem d1_15 : decode method_2_code 15 = .ok (.i2c, 1) := by decide +kernel
theorem d1_16 : decode method_2_code 16 = .ok (.istore_n 3, 1) := by decide +kernel
theorem d1_17 : decode method_2_code 17 = .ok (.iload_n 0, 1) := by decide +kernel
theorem d1_18 : decode method_2_code 18 = .ok (.bipush 16, 2) := by decide +kernel
theorem d1_20 : decode method_2_code 20 = .ok (.iushr, 1) := by decide +kernel
theorem d1_21 : decode method_2_code 21 = .ok (.sipush 255, 3) := by decide +kernel
theorem d1_24 : decode method_2_code 24 = .ok (.iand, 1) := by decide +kernel
theorem d1_25 : decode method_2_code 25 = .ok (.i2c, 1) := by decide +kernel
theorem d1_26 : decode method_2_code 26 = .ok (.istore 4, 2) := by decide +kernel
theorem d1_28 : decode method_2_code 28 = .ok (.iload_n 1, 1) := by decide +kernel
theorem d1_29 : decode method_2_code 29 = .ok (.ifCond .ne 14, 3) := by decide +kernel
theorem d1_43 : decode method_2_code 43 = .ok (.iload_n 1, 1) := by decide +kernel
theorem d1_44 : decode method_2_code 44 = .ok (.iconst 1, 1) := by decide +kernel
theorem d1_45 : decode method_2_code 45 = .ok (.if_icmp .ne 18, 3) := by decide +kernel
theorem d1_63 : decode method_2_code 63 = .ok (.iload_n 1, 1) := by decide +kernel
theorem d1_64 : decode method_2_code 64 = .ok (.iconst 2, 1) := by decide +kernel
theorem d1_65 : decode method_2_code 65 = .ok (.if_icmp .ne 22, 3) := by decide +kernel
theorem d1_87 : decode method_2_code 87 = .ok (.new 7, 3) := by decide +kernel
theorem d1_90 : decode method_2_code 90 = .ok (.dup, 1) := by decide +kernel
theorem d1_91 : decode method_2_code 91 = .ok (.iconst 3, 1) := by decide +kernel
theorem d1_92 : decode method_2_code 92 = .ok (.newarray .char, 2) := by decide +kernel
theorem d1_94 : decode method_2_code 94 = .ok (.dup, 1) := by decide +kernel
theorem d1_95 : decode method_2_code 95 = .ok (.iconst 0, 1) := by decide +kernel
theorem d1_96 : decode method_2_code 96 = .ok (.iload_n 2, 1) := by decide +kernel
theorem d1_97 : decode method_2_code 97 = .ok (.castore, 1) := by decide +kernel
theorem d1_98 : decode method_2_code 98 = .ok (.dup, 1) := by decide +kernel
theorem d1_99 : decode method_2_code 99 = .ok (.iconst 1, 1) := by decide +kernel
theorem d1_100 : decode method_2_code 100 = .ok (.iload_n 3, 1) := by decide +kernel
theorem d1_101 : decode method_2_code 101 = .ok (.castore, 1) := by decide +kernel
theorem d1_102 : decode method_2_code 102 = .ok (.dup, 1) := by decide +kernel
theorem d1_103 : decode method_2_code 103 = .ok (.iconst 2, 1) := by decide +kernel
theorem d1_104 : decode method_2_code 104 = .ok (.iload 4, 2) := by decide +kernel
theorem d1_106 : decode method_2_code 106 = .ok (.castore, 1) := by decide +kernel
theorem d1_107 : decode method_2_code 107 = .ok (.invokespecial 9, 3) := by decide +kernel
theorem pd_84933738 : parseMethodDescriptor "([C)V" = some ⟨[(.array .char)], none⟩ := by decide +kernel
theorem d1_110 : decode method_2_code 110 = .ok (.areturn, 1) := by decide +kernel
theorem d1_68 : decode method_2_code 68 = .ok (.new 7, 3) := by decide +kernel
theorem d1_71 : decode method_2_code 71 = .ok (.dup, 1) := by decide +kernel
theorem d1_72 : decode method_2_code 72 = .ok (.iconst 2, 1) := by decide +kernel
theorem d1_73 : decode method_2_code 73 = .ok (.newarray .char, 2) := by decide +kernel
theorem d1_75 : decode method_2_code 75 = .ok (.dup, 1) := by decide +kernel
theorem d1_76 : decode method_2_code 76 = .ok (.iconst 0, 1) := by decide +kernel
theorem d1_77 : decode method_2_code 77 = .ok (.iload_n 2, 1) := by decide +kernel
theorem d1_78 : decode method_2_code 78 = .ok (.castore, 1) := by decide +kernel
theorem d1_79 : decode method_2_code 79 = .ok (.dup, 1) := by decide +kernel
theorem d1_80 : decode method_2_code 80 = .ok (.iconst 1, 1) := by decide +kernel
theorem d1_81 : decode method_2_code 81 = .ok (.iload_n 3, 1) := by decide +kernel
theorem d1_82 : decode method_2_code 82 = .ok (.castore, 1) := by decide +kernel
theorem d1_83 : decode method_2_code 83 = .ok (.invokespecial 9, 3) := by decide +kernel
theorem d1_86 : decode method_2_code 86 = .ok (.areturn, 1) := by decide +kernel
theorem d1_48 : decode method_2_code 48 = .ok (.new 7, 3) := by decide +kernel
theorem d1_51 : decode method_2_code 51 = .ok (.dup, 1) := by decide +kernel
theorem d1_52 : decode method_2_code 52 = .ok (.iconst 1, 1) := by decide +kernel
theorem d1_53 : decode method_2_code 53 = .ok (.newarray .char, 2) := by decide +kernel
theorem d1_55 : decode method_2_code 55 = .ok (.dup, 1) := by decide +kernel
theorem d1_56 : decode method_2_code 56 = .ok (.iconst 0, 1) := by decide +kernel
theorem d1_57 : decode method_2_code 57 = .ok (.iload_n 2, 1) := by decide +kernel
theorem d1_58 : decode method_2_code 58 = .ok (.castore, 1) := by decide +kernel
theorem d1_59 : decode method_2_code 59 = .ok (.invokespecial 9, 3) := by decide +kernel
theorem d1_62 : decode method_2_code 62 = .ok (.areturn, 1) := by decide +kernel
theorem d1_32 : decode method_2_code 32 = .ok (.new 7, 3) := by decide +kernel
theorem d1_35 : decode method_2_code 35 = .ok (.dup, 1) := by decide +kernel
theorem d1_36 : decode method_2_code 36 = .ok (.iconst 0, 1) := by decide +kernel
theorem d1_37 : decode method_2_code 37 = .ok (.newarray .char, 2) := by decide +kernel
theorem d1_39 : decode method_2_code 39 = .ok (.invokespecial 9, 3) := by decide +kernel
theorem d1_42 : decode method_2_code 42 = .ok (.areturn, 1) := by decide +kernel
theorem pn_40575089 : plainFor (⟨"com/example/stairwell/stairwell/core/StepRepeatablePinLaw", "mk", "(II)Ljava/lang/String;"⟩ : MethodName) = true := by first | exact plainFor_of_name (by first | (simp [plainName, overriddenIn]; done) | decide +kernel) | decide +kernel
set_option maxRecDepth 65536 in
set_option maxHeartbeats 4000000 in
theorem ct_mk (G : Own.Gx) (hw : ∀ d ∈ tables_1, d.before G.a0 G.Z = true) (hC : Own.CSt G) (hnw : G.nw = false) (wS : ∀ a ∈ Bundle.stringAtoms, a.before G.a0 G.Z = true) (hcw : Jvm.Lit.compactW.before G.a0 G.Z = true) (hhs7 : Jvm.Lit.constHeld G.Z "java/lang/String" 7) {As : List Own.Ent} {Li : List Own.LitE} (p n : Int32) (hA : Own.LA As Li) :
    Own.Ct G [] (⟨"com/example/stairwell/stairwell/core/StepRepeatablePinLaw", "mk", "(II)Ljava/lang/String;"⟩ : MethodName) method_2_code 5 (some (.object "java/lang/String")) ({ frames := 4, cells := 4, slots := 12, locals := 66 } : Room) [.int p, .int n] As Li (fun v A L => ∃ o, v = some (.ref o) ∧ Own.StrF A o ((own_by (own_mk p n)).map Value.int) ∧ Own.Sub As A ∧ Own.LA A L) := by
  refine Own.Ct.intro pn_40575089 (Ls := [.val (.int p), .val (.int n), .unset, .unset, .unset]) rfl rfl ?_
  intro K
  refine Own.W.iloadN (pc := 0) d1_0 rfl ?_
  refine Own.W.sipush (pc := 1) (z := (255 : Int32)) d1_1 (by decide) ?_
  refine Own.W.iand (pc := 4) d1_4 rfl ?_
  refine Own.W.i2c (pc := 5) d1_5 (i2c_mask _) ?_
  refine Own.W.istoreN (pc := 6) (Ls' := [_, _, _, _, _]) d1_6 rfl rfl ?_
  refine Own.W.iloadN (pc := 7) d1_7 rfl ?_
  refine Own.W.bipush (pc := 8) (z := (8 : Int32)) d1_8 (by decide) ?_
  refine Own.W.iushr (pc := 10) d1_10 rfl ?_
  refine Own.W.sipush (pc := 11) (z := (255 : Int32)) d1_11 (by decide) ?_
  refine Own.W.iand (pc := 14) d1_14 rfl ?_
  refine Own.W.i2c (pc := 15) d1_15 (i2c_mask _) ?_
  refine Own.W.istoreN (pc := 16) (Ls' := [_, _, _, _, _]) d1_16 rfl rfl ?_
  refine Own.W.iloadN (pc := 17) d1_17 rfl ?_
  refine Own.W.bipush (pc := 18) (z := (16 : Int32)) d1_18 (by decide) ?_
  refine Own.W.iushr (pc := 20) d1_20 rfl ?_
  refine Own.W.sipush (pc := 21) (z := (255 : Int32)) d1_21 (by decide) ?_
  refine Own.W.iand (pc := 24) d1_24 rfl ?_
  refine Own.W.i2c (pc := 25) d1_25 (i2c_mask _) ?_
  refine Own.W.istore (pc := 26) (Ls' := [_, _, _, _, _]) d1_26 rfl rfl ?_
  refine Own.W.iloadN (pc := 28) d1_28 rfl ?_
  refine Own.W.if_ne (pc := 29) 43 d1_29 (by decide) (by decide) ?_ ?_
  · intro h29
    refine Own.W.iloadN (pc := 43) d1_43 rfl ?_
    refine Own.W.iconst (pc := 44) (z := (1 : Int32)) d1_44 (by decide) ?_
    refine Own.W.ic_ne (pc := 45) 63 d1_45 (by decide) (by decide) ?_ ?_
    · intro h45
      refine Own.W.iloadN (pc := 63) d1_63 rfl ?_
      refine Own.W.iconst (pc := 64) (z := (2 : Int32)) d1_64 (by decide) ?_
      refine Own.W.ic_ne (pc := 65) 87 d1_65 (by decide) (by decide) ?_ ?_
      · intro h65
        refine Own.W.new (pc := 87) (hw _ (List.mem_of_getElem? (i := 4) rfl)) (hw _ (List.mem_of_getElem? (i := 5) rfl)) (hw _ (List.mem_of_getElem? (i := 6) rfl)) d1_87 (LF_java_lang_String G hw) (vs := [.int 0, .null]) (by decide) (Nat.le_of_ble_eq_true rfl) (Nat.le_of_ble_eq_true rfl) ?_
        intro o87
        refine Own.W.dup (pc := 90) d1_90 rfl ?_
        refine Own.W.iconst (pc := 91) (z := (3 : Int32)) d1_91 (by decide) ?_
        refine Own.W.newP (pc := 92) 3 (hw _ (List.mem_of_getElem? (i := 7) rfl)) d1_92 rfl (by decide) (Nat.le_of_ble_eq_true rfl) (by decide) (vs := [.int 0, .int 0, .int 0]) rfl (Nat.le_of_ble_eq_true rfl) (Nat.le_of_ble_eq_true rfl) ?_
        intro o92
        refine Own.W.dup (pc := 94) d1_94 rfl ?_
        refine Own.W.iconst (pc := 95) (z := (0 : Int32)) d1_95 (by decide) ?_
        refine Own.W.iloadN (pc := 96) d1_96 rfl ?_
        refine Own.W.castore (pc := 97) d1_97 (by decide) (i := 0) (by decide) (by simp) (u := .int (p &&& 255)) (congrArg Value.int (own_nar (own_id p))) (vs' := [.int (p &&& 255), .int 0, .int 0]) rfl Own.Upd.head ?_
        refine Own.W.dup (pc := 98) d1_98 rfl ?_
        refine Own.W.iconst (pc := 99) (z := (1 : Int32)) d1_99 (by decide) ?_
        refine Own.W.iloadN (pc := 100) d1_100 rfl ?_
        refine Own.W.castore (pc := 101) d1_101 (by decide) (i := 1) (by decide) (by simp) (u := .int (ush p 8 &&& 255)) (congrArg Value.int (own_nar (own_id _))) (vs' := [.int (p &&& 255), .int (ush p 8 &&& 255), .int 0]) rfl Own.Upd.head ?_
        refine Own.W.dup (pc := 102) d1_102 rfl ?_
        refine Own.W.iconst (pc := 103) (z := (2 : Int32)) d1_103 (by decide) ?_
        refine Own.W.iload (pc := 104) d1_104 rfl ?_
        refine Own.W.castore (pc := 106) d1_106 (by decide) (i := 2) (by decide) (by simp) (u := .int (ush p 16 &&& 255)) (congrArg Value.int (own_nar (own_id _))) (vs' := [.int (p &&& 255), .int (ush p 8 &&& 255), .int (ush p 16 &&& 255)]) rfl Own.Upd.head ?_
        refine Own.W.perm ?_ (List.Perm.swap _ _ _)
        refine Own.W.callI (pc := 107) (ct_str1 G hw hC o87 o92 [p &&& 255, ush p 8 &&& 255, ush p 16 &&& 255] 3 (by simp) (by simp) (by decide) (fun z hz => own_ch (by simp only [List.mem_cons, List.not_mem_nil, or_false] at hz; first | (rcases hz with rfl | rfl | rfl <;> exact own_id _) | (rcases hz with rfl | rfl <;> exact own_id _) | (subst hz; exact own_id _))) (Own.AVin.mem (List.Mem.head _))) d1_107 rfl (hw _ (List.mem_of_getElem? (i := 8) rfl)) (hw _ (List.mem_of_getElem? (i := 9) rfl)) (hw _ (List.mem_of_getElem? (i := 6) rfl)) (hw _ (List.mem_of_getElem? (i := 10) rfl)) (by decide) pd_84933738 rfl rfl (Nat.le_of_ble_eq_true rfl) (Nat.le_of_ble_eq_true rfl) (Nat.le_of_ble_eq_true rfl) (by first | exact Nat.le_of_ble_eq_true rfl | (simp; done) | (simp; omega)) ?_
        rintro _ _ _ ⟨b, rfl, rfl, rfl⟩
        refine Own.W.frz Own.Frz.head ?_
        refine Own.W.frz (Own.Frz.tail Own.Frz.head) ?_
        rw [own_by_map]
        refine Own.W.aret (pc := 110) d1_110 rfl rfl rfl ?_ (Nat.le_of_ble_eq_true rfl) (Nat.le_of_ble_eq_true rfl)
        exact ⟨_, rfl, by rw [show own_mk p n = [p &&& 255, ush p 8 &&& 255, ush p 16 &&& 255] from by unfold own_mk; rw [if_neg h29, if_neg h45, if_neg h65]]; exact ⟨b, _, _, List.Mem.tail _ (List.Mem.head _), (by repeat (first | exact Own.FAt.head | apply Own.FAt.tail)), (by repeat (first | exact Own.FAt.head | apply Own.FAt.tail)), List.Mem.head _⟩, (Own.Sub.cons (Own.Sub.cons (Own.Sub.cons (Own.Sub.refl _)))), hA.sub (Own.Sub.cons (Own.Sub.cons (Own.Sub.cons (Own.Sub.refl _))))⟩
      · intro h65
        refine Own.W.new (pc := 68) (hw _ (List.mem_of_getElem? (i := 4) rfl)) (hw _ (List.mem_of_getElem? (i := 5) rfl)) (hw _ (List.mem_of_getElem? (i := 6) rfl)) d1_68 (LF_java_lang_String G hw) (vs := [.int 0, .null]) (by decide) (Nat.le_of_ble_eq_true rfl) (Nat.le_of_ble_eq_true rfl) ?_
        intro o68
        refine Own.W.dup (pc := 71) d1_71 rfl ?_
        refine Own.W.iconst (pc := 72) (z := (2 : Int32)) d1_72 (by decide) ?_
        refine Own.W.newP (pc := 73) 2 (hw _ (List.mem_of_getElem? (i := 7) rfl)) d1_73 rfl (by decide) (Nat.le_of_ble_eq_true rfl) (by decide) (vs := [.int 0, .int 0]) rfl (Nat.le_of_ble_eq_true rfl) (Nat.le_of_ble_eq_true rfl) ?_
        intro o73
        refine Own.W.dup (pc := 75) d1_75 rfl ?_
        refine Own.W.iconst (pc := 76) (z := (0 : Int32)) d1_76 (by decide) ?_
        refine Own.W.iloadN (pc := 77) d1_77 rfl ?_
        refine Own.W.castore (pc := 78) d1_78 (by decide) (i := 0) (by decide) (by simp) (u := .int (p &&& 255)) (congrArg Value.int (own_nar (own_id p))) (vs' := [.int (p &&& 255), .int 0]) rfl Own.Upd.head ?_
        refine Own.W.dup (pc := 79) d1_79 rfl ?_
        refine Own.W.iconst (pc := 80) (z := (1 : Int32)) d1_80 (by decide) ?_
        refine Own.W.iloadN (pc := 81) d1_81 rfl ?_
        refine Own.W.castore (pc := 82) d1_82 (by decide) (i := 1) (by decide) (by simp) (u := .int (ush p 8 &&& 255)) (congrArg Value.int (own_nar (own_id _))) (vs' := [.int (p &&& 255), .int (ush p 8 &&& 255)]) rfl Own.Upd.head ?_
        refine Own.W.perm ?_ (List.Perm.swap _ _ _)
        refine Own.W.callI (pc := 83) (ct_str1 G hw hC o68 o73 [p &&& 255, ush p 8 &&& 255] 2 (by simp) (by simp) (by decide) (fun z hz => own_ch (by simp only [List.mem_cons, List.not_mem_nil, or_false] at hz; first | (rcases hz with rfl | rfl | rfl <;> exact own_id _) | (rcases hz with rfl | rfl <;> exact own_id _) | (subst hz; exact own_id _))) (Own.AVin.mem (List.Mem.head _))) d1_83 rfl (hw _ (List.mem_of_getElem? (i := 8) rfl)) (hw _ (List.mem_of_getElem? (i := 9) rfl)) (hw _ (List.mem_of_getElem? (i := 6) rfl)) (hw _ (List.mem_of_getElem? (i := 10) rfl)) (by decide) pd_84933738 rfl rfl (Nat.le_of_ble_eq_true rfl) (Nat.le_of_ble_eq_true rfl) (Nat.le_of_ble_eq_true rfl) (by first | exact Nat.le_of_ble_eq_true rfl | (simp; done) | (simp; omega)) ?_
        rintro _ _ _ ⟨b, rfl, rfl, rfl⟩
        refine Own.W.frz Own.Frz.head ?_
        refine Own.W.frz (Own.Frz.tail Own.Frz.head) ?_
        rw [own_by_map]
        refine Own.W.aret (pc := 86) d1_86 rfl rfl rfl ?_ (Nat.le_of_ble_eq_true rfl) (Nat.le_of_ble_eq_true rfl)
        exact ⟨_, rfl, by rw [show own_mk p n = [p &&& 255, ush p 8 &&& 255] from by unfold own_mk; rw [if_neg h29, if_neg h45, if_pos h65]]; exact ⟨b, _, _, List.Mem.tail _ (List.Mem.head _), (by repeat (first | exact Own.FAt.head | apply Own.FAt.tail)), (by repeat (first | exact Own.FAt.head | apply Own.FAt.tail)), List.Mem.head _⟩, (Own.Sub.cons (Own.Sub.cons (Own.Sub.cons (Own.Sub.refl _)))), hA.sub (Own.Sub.cons (Own.Sub.cons (Own.Sub.cons (Own.Sub.refl _))))⟩
    · intro h45
      refine Own.W.new (pc := 48) (hw _ (List.mem_of_getElem? (i := 4) rfl)) (hw _ (List.mem_of_getElem? (i := 5) rfl)) (hw _ (List.mem_of_getElem? (i := 6) rfl)) d1_48 (LF_java_lang_String G hw) (vs := [.int 0, .null]) (by decide) (Nat.le_of_ble_eq_true rfl) (Nat.le_of_ble_eq_true rfl) ?_
      intro o48
      refine Own.W.dup (pc := 51) d1_51 rfl ?_
      refine Own.W.iconst (pc := 52) (z := (1 : Int32)) d1_52 (by decide) ?_
      refine Own.W.newP (pc := 53) 1 (hw _ (List.mem_of_getElem? (i := 7) rfl)) d1_53 rfl (by decide) (Nat.le_of_ble_eq_true rfl) (by decide) (vs := [.int 0]) rfl (Nat.le_of_ble_eq_true rfl) (Nat.le_of_ble_eq_true rfl) ?_
      intro o53
      refine Own.W.dup (pc := 55) d1_55 rfl ?_
      refine Own.W.iconst (pc := 56) (z := (0 : Int32)) d1_56 (by decide) ?_
      refine Own.W.iloadN (pc := 57) d1_57 rfl ?_
      refine Own.W.castore (pc := 58) d1_58 (by decide) (i := 0) (by decide) (by simp) (u := .int (p &&& 255)) (congrArg Value.int (own_nar (own_id p))) (vs' := [.int (p &&& 255)]) rfl Own.Upd.head ?_
      refine Own.W.perm ?_ (List.Perm.swap _ _ _)
      refine Own.W.callI (pc := 59) (ct_str1 G hw hC o48 o53 [p &&& 255] 1 (by simp) (by simp) (by decide) (fun z hz => own_ch (by simp only [List.mem_cons, List.not_mem_nil, or_false] at hz; first | (rcases hz with rfl | rfl | rfl <;> exact own_id _) | (rcases hz with rfl | rfl <;> exact own_id _) | (subst hz; exact own_id _))) (Own.AVin.mem (List.Mem.head _))) d1_59 rfl (hw _ (List.mem_of_getElem? (i := 8) rfl)) (hw _ (List.mem_of_getElem? (i := 9) rfl)) (hw _ (List.mem_of_getElem? (i := 6) rfl)) (hw _ (List.mem_of_getElem? (i := 10) rfl)) (by decide) pd_84933738 rfl rfl (Nat.le_of_ble_eq_true rfl) (Nat.le_of_ble_eq_true rfl) (Nat.le_of_ble_eq_true rfl) (by first | exact Nat.le_of_ble_eq_true rfl | (simp; done) | (simp; omega)) ?_
      rintro _ _ _ ⟨b, rfl, rfl, rfl⟩
      refine Own.W.frz Own.Frz.head ?_
      refine Own.W.frz (Own.Frz.tail Own.Frz.head) ?_
      rw [own_by_map]
      refine Own.W.aret (pc := 62) d1_62 rfl rfl rfl ?_ (Nat.le_of_ble_eq_true rfl) (Nat.le_of_ble_eq_true rfl)
      exact ⟨_, rfl, by rw [show own_mk p n = [p &&& 255] from by unfold own_mk; rw [if_neg h29, if_pos h45]]; exact ⟨b, _, _, List.Mem.tail _ (List.Mem.head _), (by repeat (first | exact Own.FAt.head | apply Own.FAt.tail)), (by repeat (first | exact Own.FAt.head | apply Own.FAt.tail)), List.Mem.head _⟩, (Own.Sub.cons (Own.Sub.cons (Own.Sub.cons (Own.Sub.refl _)))), hA.sub (Own.Sub.cons (Own.Sub.cons (Own.Sub.cons (Own.Sub.refl _))))⟩
  · intro h29
    refine Own.W.new (pc := 32) (hw _ (List.mem_of_getElem? (i := 4) rfl)) (hw _ (List.mem_of_getElem? (i := 5) rfl)) (hw _ (List.mem_of_getElem? (i := 6) rfl)) d1_32 (LF_java_lang_String G hw) (vs := [.int 0, .null]) (by decide) (Nat.le_of_ble_eq_true rfl) (Nat.le_of_ble_eq_true rfl) ?_
    intro o32
    refine Own.W.dup (pc := 35) d1_35 rfl ?_
    refine Own.W.iconst (pc := 36) (z := (0 : Int32)) d1_36 (by decide) ?_
    refine Own.W.newP (pc := 37) 0 (hw _ (List.mem_of_getElem? (i := 7) rfl)) d1_37 rfl (by decide) (Nat.le_of_ble_eq_true rfl) (by decide) (vs := []) rfl (Nat.le_of_ble_eq_true rfl) (Nat.le_of_ble_eq_true rfl) ?_
    intro o37
    refine Own.W.perm ?_ (List.Perm.swap _ _ _)
    refine Own.W.callI (pc := 39) (ct_strA G hw hnw wS hcw hhs7 o32 o37 hA.cons1 (Own.AVin.mem (List.Mem.head _))) d1_39 rfl (hw _ (List.mem_of_getElem? (i := 8) rfl)) (hw _ (List.mem_of_getElem? (i := 9) rfl)) (hw _ (List.mem_of_getElem? (i := 6) rfl)) (hw _ (List.mem_of_getElem? (i := 10) rfl)) (by decide) pd_84933738 rfl rfl (Nat.le_of_ble_eq_true rfl) (Nat.le_of_ble_eq_true rfl) (Nat.le_of_ble_eq_true rfl) (Nat.le_of_ble_eq_true rfl) ?_
    rintro _ _ L1 ⟨b, A1, rfl, rfl, g1, g2, g3⟩
    refine Own.W.frz Own.Frz.head ?_
    refine Own.W.aret (pc := 42) d1_42 rfl rfl rfl ?_ (Nat.le_of_ble_eq_true rfl) (Nat.le_of_ble_eq_true rfl)
    exact ⟨_, rfl, by rw [show own_mk p n = [] from if_pos h29]; exact ⟨b, _, _, List.Mem.head _, (by repeat (first | exact Own.FAt.head | apply Own.FAt.tail)), (by repeat (first | exact Own.FAt.head | apply Own.FAt.tail)), List.Mem.tail _ g1⟩, fun e he => List.Mem.tail _ (g2 e (List.Mem.tail _ he)), g3.cons1⟩
/-- the empty Optional -/
def OptE (G : Own.Gx) (em : Addr) : Prop := Sta G.Z G.Z.heap "java/util/Optional" "EMPTY" "Ljava/util/Optional;" (.ref em) ∧ Exa G.Z G.Z.heap em "java/util/Optional" ∧ Fld G.Z G.Z.heap em "java/util/Optional" "value" "Ljava/lang/Object;" .null
theorem d13_0 : decode jdk_30_method_1_code 0 = .ok (.aload_n 0, 1) := by decide +kernel
theorem d13_1 : decode jdk_30_method_1_code 1 = .ok (.invokespecial 1, 3) := by decide +kernel
theorem d13_4 : decode jdk_30_method_1_code 4 = .ok (.return_, 1) := by decide +kernel
theorem pn_78803619 : plainFor (⟨"java/lang/Record", "<init>", "()V"⟩ : MethodName) = true := by first | exact plainFor_of_name (by first | (simp [plainName, overriddenIn]; done) | decide +kernel) | decide +kernel
set_option maxRecDepth 65536 in
set_option maxHeartbeats 4000000 in
theorem ct_rec (G : Own.Gx) (hw : ∀ d ∈ tables_1, d.before G.a0 G.Z = true) {As : List Own.Ent} {Li : List Own.LitE} (o : Addr) :
    Own.Ct G [] (⟨"java/lang/Record", "<init>", "()V"⟩ : MethodName) jdk_30_method_1_code 1 none ({ frames := 1, cells := 0, slots := 0, locals := 12 } : Room) [.ref o] As Li (fun v A L => v = none ∧ As = A ∧ Li = L) := by
  refine Own.Ct.intro pn_78803619 (Ls := [.val (.ref o)]) rfl rfl ?_
  intro K
  refine Own.W.aloadN (pc := 0) d13_0 rfl rfl ?_
  refine Own.W.callO (pc := 1) d13_1 (hw _ (List.mem_of_getElem? (i := 66) rfl)) (hw _ (List.mem_of_getElem? (i := 16) rfl)) (hw _ (List.mem_of_getElem? (i := 17) rfl)) (Nat.le_of_ble_eq_true rfl) (Nat.le_of_ble_eq_true rfl) ?_
  refine Own.W.vret (pc := 4) d13_4 rfl ?_ (Nat.le_of_ble_eq_true rfl) (Nat.le_of_ble_eq_true rfl)
  exact ⟨rfl, rfl, rfl⟩
theorem d14_0 : decode jdk_31_method_11_code 0 = .ok (.aload_n 0, 1) := by decide +kernel
theorem d14_1 : decode jdk_31_method_11_code 1 = .ok (.ifnonnull 12, 3) := by decide +kernel
theorem d14_13 : decode jdk_31_method_11_code 13 = .ok (.aload_n 0, 1) := by decide +kernel
theorem d14_14 : decode jdk_31_method_11_code 14 = .ok (.areturn, 1) := by decide +kernel
theorem pn_34632137 : plainFor (⟨"java/util/Objects", "requireNonNull", "(Ljava/lang/Object;Ljava/lang/String;)Ljava/lang/Object;"⟩ : MethodName) = true := by first | exact plainFor_of_name (by first | (simp [plainName, overriddenIn]; done) | decide +kernel) | decide +kernel
set_option maxRecDepth 65536 in
set_option maxHeartbeats 4000000 in
theorem ct_rn2 (G : Own.Gx) (hw : ∀ d ∈ tables_1, d.before G.a0 G.Z = true) {As : List Own.Ent} {Li : List Own.LitE} (a b : Addr) :
    Own.Ct G [] (⟨"java/util/Objects", "requireNonNull", "(Ljava/lang/Object;Ljava/lang/String;)Ljava/lang/Object;"⟩ : MethodName) jdk_31_method_11_code 2 (some (.object "java/lang/Object")) ({ frames := 0, cells := 0, slots := 0, locals := 0 } : Room) [.ref a, .ref b] As Li (fun v A L => v = some (.ref a) ∧ As = A ∧ Li = L) := by
  refine Own.Ct.intro pn_34632137 (Ls := [.val (.ref a), .val (.ref b)]) rfl rfl ?_
  intro K
  refine Own.W.aloadN (pc := 0) d14_0 rfl rfl ?_
  refine Own.W.nonnullY (pc := 1) 13 d14_1 (by decide) (by decide) ?_
  refine Own.W.aloadN (pc := 13) d14_13 rfl rfl ?_
  refine Own.W.aret (pc := 14) d14_14 rfl rfl rfl ?_ (Nat.le_of_ble_eq_true rfl) (Nat.le_of_ble_eq_true rfl)
  exact ⟨rfl, rfl, rfl⟩
theorem d20_0 : decode jdk_31_method_10_code 0 = .ok (.aload_n 0, 1) := by decide +kernel
theorem d20_1 : decode jdk_31_method_10_code 1 = .ok (.ifnonnull 11, 3) := by decide +kernel
theorem d20_12 : decode jdk_31_method_10_code 12 = .ok (.aload_n 0, 1) := by decide +kernel
theorem d20_13 : decode jdk_31_method_10_code 13 = .ok (.areturn, 1) := by decide +kernel
theorem pn_98972425 : plainFor (⟨"java/util/Objects", "requireNonNull", "(Ljava/lang/Object;)Ljava/lang/Object;"⟩ : MethodName) = true := by first | exact plainFor_of_name (by first | (simp [plainName, overriddenIn]; done) | decide +kernel) | decide +kernel
set_option maxRecDepth 65536 in
set_option maxHeartbeats 4000000 in
theorem ct_rnn (G : Own.Gx) (hw : ∀ d ∈ tables_1, d.before G.a0 G.Z = true) {As : List Own.Ent} {Li : List Own.LitE} (a : Addr) :
    Own.Ct G [] (⟨"java/util/Objects", "requireNonNull", "(Ljava/lang/Object;)Ljava/lang/Object;"⟩ : MethodName) jdk_31_method_10_code 1 (some (.object "java/lang/Object")) ({ frames := 0, cells := 0, slots := 0, locals := 0 } : Room) [.ref a] As Li (fun v A L => v = some (.ref a) ∧ As = A ∧ Li = L) := by
  refine Own.Ct.intro pn_98972425 (Ls := [.val (.ref a)]) rfl rfl ?_
  intro K
  refine Own.W.aloadN (pc := 0) d20_0 rfl rfl ?_
  refine Own.W.nonnullY (pc := 1) 12 d20_1 (by decide) (by decide) ?_
  refine Own.W.aloadN (pc := 12) d20_12 rfl rfl ?_
  refine Own.W.aret (pc := 13) d20_13 rfl rfl rfl ?_ (Nat.le_of_ble_eq_true rfl) (Nat.le_of_ble_eq_true rfl)
  exact ⟨rfl, rfl, rfl⟩
theorem d11_0 : decode jdk_32_method_1_code 0 = .ok (.getstatic 1, 3) := by decide +kernel
theorem d11_3 : decode jdk_32_method_1_code 3 = .ok (.astore_n 0, 1) := by decide +kernel
theorem d11_4 : decode jdk_32_method_1_code 4 = .ok (.aload_n 0, 1) := by decide +kernel
theorem d11_5 : decode jdk_32_method_1_code 5 = .ok (.areturn, 1) := by decide +kernel
theorem pn_65458652 : plainFor (⟨"java/util/Optional", "empty", "()Ljava/util/Optional;"⟩ : MethodName) = true := by first | exact plainFor_of_name (by first | (simp [plainName, overriddenIn]; done) | decide +kernel) | decide +kernel
set_option maxRecDepth 65536 in
set_option maxHeartbeats 4000000 in
theorem ct_oem (G : Own.Gx) (hw : ∀ d ∈ tables_1, d.before G.a0 G.Z = true) (em : Addr) (hO : OptE G em) {As : List Own.Ent} {Li : List Own.LitE} :
    Own.Ct G [] (⟨"java/util/Optional", "empty", "()Ljava/util/Optional;"⟩ : MethodName) jdk_32_method_1_code 1 (some (.object "java/util/Optional")) ({ frames := 0, cells := 0, slots := 0, locals := 0 } : Room) [] As Li (fun v A L => v = some (.ref em) ∧ As = A ∧ Li = L) := by
  refine Own.Ct.intro pn_65458652 (Ls := [.unset]) rfl rfl ?_
  intro K
  refine Own.W.getS (pc := 0) (host := "") (Or.inl (hw _ (List.mem_of_getElem? (i := 57) rfl))) (Via.refl (O := "java/util/Optional")) d11_0 hO.1 ?_
  refine Own.W.astoreN (pc := 3) (Ls' := [_]) d11_3 rfl rfl rfl ?_
  refine Own.W.aloadN (pc := 4) d11_4 rfl rfl ?_
  refine Own.W.aret (pc := 5) d11_5 rfl rfl rfl ?_ (Nat.le_of_ble_eq_true rfl) (Nat.le_of_ble_eq_true rfl)
  exact ⟨rfl, rfl, rfl⟩
theorem d16_0 : decode jdk_32_method_7_code 0 = .ok (.aload_n 0, 1) := by decide +kernel
theorem d16_1 : decode jdk_32_method_7_code 1 = .ok (.getfield 13, 3) := by decide +kernel
theorem d16_4 : decode jdk_32_method_7_code 4 = .ok (.ifnonnull 7, 3) := by decide +kernel
theorem d16_7 : decode jdk_32_method_7_code 7 = .ok (.iconst 1, 1) := by decide +kernel
theorem d16_8 : decode jdk_32_method_7_code 8 = .ok (.goto 4, 3) := by decide +kernel
theorem d16_12 : decode jdk_32_method_7_code 12 = .ok (.ireturn, 1) := by decide +kernel
theorem pn_92158119 : plainFor (⟨"java/util/Optional", "isEmpty", "()Z"⟩ : MethodName) = true := by first | exact plainFor_of_name (by first | (simp [plainName, overriddenIn]; done) | decide +kernel) | decide +kernel
set_option maxRecDepth 65536 in
set_option maxHeartbeats 4000000 in
theorem ct_oie (G : Own.Gx) (hw : ∀ d ∈ tables_1, d.before G.a0 G.Z = true) (em : Addr) (hO : OptE G em) {As : List Own.Ent} {Li : List Own.LitE} :
    Own.Ct G [] (⟨"java/util/Optional", "isEmpty", "()Z"⟩ : MethodName) jdk_32_method_7_code 1 (some .boolean) ({ frames := 0, cells := 0, slots := 0, locals := 0 } : Room) [.ref em] As Li (fun v A L => v = some (.int 1) ∧ As = A ∧ Li = L) := by
  refine Own.Ct.intro pn_92158119 (Ls := [.val (.ref em)]) rfl rfl ?_
  intro K
  refine Own.W.aloadN (pc := 0) d16_0 rfl rfl ?_
  refine Own.W.getFo (pc := 1) (host := "") (Or.inl (hw _ (List.mem_of_getElem? (i := 87) rfl))) (Via.refl (O := "java/util/Optional")) d16_1 hO.2.2 ?_
  refine Own.W.nonnullN (pc := 4) d16_4 ?_
  refine Own.W.iconst (pc := 7) (z := (1 : Int32)) d16_7 (by decide) ?_
  refine Own.W.goto (pc := 8) 12 d16_8 (by decide) (by decide) ?_
  refine Own.W.iret (pc := 12) d16_12 rfl (by simp) (by first | rfl | decide) ?_ (Nat.le_of_ble_eq_true rfl) (Nat.le_of_ble_eq_true rfl)
  exact ⟨rfl, rfl, rfl⟩
theorem d25_0 : decode jdk_32_method_6_code 0 = .ok (.aload_n 0, 1) := by decide +kernel
theorem d25_1 : decode jdk_32_method_6_code 1 = .ok (.getfield 13, 3) := by decide +kernel
theorem d25_4 : decode jdk_32_method_6_code 4 = .ok (.ifnull 7, 3) := by decide +kernel
theorem d25_11 : decode jdk_32_method_6_code 11 = .ok (.iconst 0, 1) := by decide +kernel
theorem d25_12 : decode jdk_32_method_6_code 12 = .ok (.ireturn, 1) := by decide +kernel
theorem pn_890169 : plainFor (⟨"java/util/Optional", "isPresent", "()Z"⟩ : MethodName) = true := by first | exact plainFor_of_name (by first | (simp [plainName, overriddenIn]; done) | decide +kernel) | decide +kernel
set_option maxRecDepth 65536 in
set_option maxHeartbeats 4000000 in
theorem ct_oip (G : Own.Gx) (hw : ∀ d ∈ tables_1, d.before G.a0 G.Z = true) (em : Addr) (hO : OptE G em) {As : List Own.Ent} {Li : List Own.LitE} :
    Own.Ct G [] (⟨"java/util/Optional", "isPresent", "()Z"⟩ : MethodName) jdk_32_method_6_code 1 (some .boolean) ({ frames := 0, cells := 0, slots := 0, locals := 0 } : Room) [.ref em] As Li (fun v A L => v = some (.int 0) ∧ As = A ∧ Li = L) := by
  refine Own.Ct.intro pn_890169 (Ls := [.val (.ref em)]) rfl rfl ?_
  intro K
  refine Own.W.aloadN (pc := 0) d25_0 rfl rfl ?_
  refine Own.W.getFo (pc := 1) (host := "") (Or.inl (hw _ (List.mem_of_getElem? (i := 87) rfl))) (Via.refl (O := "java/util/Optional")) d25_1 hO.2.2 ?_
  refine Own.W.nullY (pc := 4) 11 d25_4 (by decide) (by decide) ?_
  refine Own.W.iconst (pc := 11) (z := (0 : Int32)) d25_11 (by decide) ?_
  refine Own.W.iret (pc := 12) d25_12 rfl (by simp) (by first | rfl | decide) ?_ (Nat.le_of_ble_eq_true rfl) (Nat.le_of_ble_eq_true rfl)
  exact ⟨rfl, rfl, rfl⟩
theorem d19_0 : decode jdk_32_method_11_code 0 = .ok (.aload_n 1, 1) := by decide +kernel
theorem d19_1 : decode jdk_32_method_11_code 1 = .ok (.invokestatic 17, 3) := by decide +kernel
theorem pd_77252822 : parseMethodDescriptor "(Ljava/lang/Object;)Ljava/lang/Object;" = some ⟨[(.object "java/lang/Object")], some (.object "java/lang/Object")⟩ := by decide +kernel
theorem d19_4 : decode jdk_32_method_11_code 4 = .ok (.pop, 1) := by decide +kernel
theorem d19_5 : decode jdk_32_method_11_code 5 = .ok (.aload_n 0, 1) := by decide +kernel
theorem d19_6 : decode jdk_32_method_11_code 6 = .ok (.invokevirtual 43, 3) := by decide +kernel
theorem pd_93422000 : parseMethodDescriptor "()Z" = some ⟨[], some .boolean⟩ := by decide +kernel
theorem d19_9 : decode jdk_32_method_11_code 9 = .ok (.ifCond .eq 7, 3) := by decide +kernel
theorem d19_12 : decode jdk_32_method_11_code 12 = .ok (.invokestatic 53, 3) := by decide +kernel
theorem pd_59025377 : parseMethodDescriptor "()Ljava/util/Optional;" = some ⟨[], some (.object "java/util/Optional")⟩ := by decide +kernel
theorem d19_15 : decode jdk_32_method_11_code 15 = .ok (.areturn, 1) := by decide +kernel
theorem pn_96771851 : plainFor (⟨"java/util/Optional", "map", "(Ljava/util/function/Function;)Ljava/util/Optional;"⟩ : MethodName) = true := by first | exact plainFor_of_name (by first | (simp [plainName, overriddenIn]; done) | decide +kernel) | decide +kernel
set_option maxRecDepth 65536 in
set_option maxHeartbeats 4000000 in
theorem ct_oma (G : Own.Gx) (hw : ∀ d ∈ tables_1, d.before G.a0 G.Z = true) (em : Addr) (hO : OptE G em) {As : List Own.Ent} {Li : List Own.LitE} (f : Addr) :
    Own.Ct G [] (⟨"java/util/Optional", "map", "(Ljava/util/function/Function;)Ljava/util/Optional;"⟩ : MethodName) jdk_32_method_11_code 2 (some (.object "java/util/Optional")) ({ frames := 1, cells := 0, slots := 0, locals := 12 } : Room) [.ref em, .ref f] As Li (fun v A L => v = some (.ref em) ∧ As = A ∧ Li = L) := by
  refine Own.Ct.intro pn_96771851 (Ls := [.val (.ref em), .val (.ref f)]) rfl rfl ?_
  intro K
  refine Own.W.aloadN (pc := 0) d19_0 rfl rfl ?_
  refine Own.W.callS (pc := 1) (ct_rnn G hw f) d19_1 (hw _ (List.mem_of_getElem? (i := 108) rfl)) (hw _ (List.mem_of_getElem? (i := 109) rfl)) (hw _ (List.mem_of_getElem? (i := 70) rfl)) (hw _ (List.mem_of_getElem? (i := 110) rfl)) (by decide) pd_77252822 rfl rfl (Nat.le_of_ble_eq_true rfl) (Nat.le_of_ble_eq_true rfl) (Nat.le_of_ble_eq_true rfl) (Nat.le_of_ble_eq_true rfl) ?_
  rintro _ _ _ ⟨rfl, rfl, rfl⟩
  refine Own.W.pop (pc := 4) d19_4 rfl ?_
  refine Own.W.aloadN (pc := 5) d19_5 rfl rfl ?_
  refine Own.W.callV (pc := 6) (ct_oie G hw em hO) d19_6 (C := "java/util/Optional") (Own.Is.old hO.2.1) (hw _ (List.mem_of_getElem? (i := 111) rfl)) (hw _ (List.mem_of_getElem? (i := 83) rfl)) (Own.nf_sel (hw _ (List.mem_of_getElem? (i := 85) rfl))) (hw _ (List.mem_of_getElem? (i := 85) rfl)) (hw _ (List.mem_of_getElem? (i := 84) rfl)) (hw _ (List.mem_of_getElem? (i := 55) rfl)) (hw _ (List.mem_of_getElem? (i := 86) rfl)) (by decide) pd_93422000 rfl rfl (Nat.le_of_ble_eq_true rfl) (Nat.le_of_ble_eq_true rfl) (Nat.le_of_ble_eq_true rfl) (Nat.le_of_ble_eq_true rfl) ?_
  rintro _ _ _ ⟨rfl, rfl, rfl⟩
  refine Own.W.if_eq (pc := 9) 16 d19_9 (by decide) (by decide) (fun h9 => absurd h9 (by decide)) ?_
  intro h9
  refine Own.W.callS (pc := 12) (ct_oem G hw em hO) d19_12 (hw _ (List.mem_of_getElem? (i := 112) rfl)) (hw _ (List.mem_of_getElem? (i := 54) rfl)) (hw _ (List.mem_of_getElem? (i := 55) rfl)) (hw _ (List.mem_of_getElem? (i := 56) rfl)) (by decide) pd_59025377 rfl rfl (Nat.le_of_ble_eq_true rfl) (Nat.le_of_ble_eq_true rfl) (Nat.le_of_ble_eq_true rfl) (Nat.le_of_ble_eq_true rfl) ?_
  rintro _ _ _ ⟨rfl, rfl, rfl⟩
  refine Own.W.aret (pc := 15) d19_15 rfl rfl rfl ?_ (Nat.le_of_ble_eq_true rfl) (Nat.le_of_ble_eq_true rfl)
  exact ⟨rfl, rfl, rfl⟩
theorem d21_0 : decode jdk_32_method_15_code 0 = .ok (.aload_n 0, 1) := by decide +kernel
theorem d21_1 : decode jdk_32_method_15_code 1 = .ok (.getfield 13, 3) := by decide +kernel
theorem d21_4 : decode jdk_32_method_15_code 4 = .ok (.ifnull 10, 3) := by decide +kernel
theorem d21_14 : decode jdk_32_method_15_code 14 = .ok (.aload_n 1, 1) := by decide +kernel
theorem d21_15 : decode jdk_32_method_15_code 15 = .ok (.areturn, 1) := by decide +kernel
theorem pn_18554956 : plainFor (⟨"java/util/Optional", "orElse", "(Ljava/lang/Object;)Ljava/lang/Object;"⟩ : MethodName) = true := by first | exact plainFor_of_name (by first | (simp [plainName, overriddenIn]; done) | decide +kernel) | decide +kernel
set_option maxRecDepth 65536 in
set_option maxHeartbeats 4000000 in
theorem ct_oor (G : Own.Gx) (hw : ∀ d ∈ tables_1, d.before G.a0 G.Z = true) (em : Addr) (hO : OptE G em) {As : List Own.Ent} {Li : List Own.LitE} (r : Addr) :
    Own.Ct G [] (⟨"java/util/Optional", "orElse", "(Ljava/lang/Object;)Ljava/lang/Object;"⟩ : MethodName) jdk_32_method_15_code 2 (some (.object "java/lang/Object")) ({ frames := 0, cells := 0, slots := 0, locals := 0 } : Room) [.ref em, .ref r] As Li (fun v A L => v = some (.ref r) ∧ As = A ∧ Li = L) := by
  refine Own.Ct.intro pn_18554956 (Ls := [.val (.ref em), .val (.ref r)]) rfl rfl ?_
  intro K
  refine Own.W.aloadN (pc := 0) d21_0 rfl rfl ?_
  refine Own.W.getFo (pc := 1) (host := "") (Or.inl (hw _ (List.mem_of_getElem? (i := 87) rfl))) (Via.refl (O := "java/util/Optional")) d21_1 hO.2.2 ?_
  refine Own.W.nullY (pc := 4) 14 d21_4 (by decide) (by decide) ?_
  refine Own.W.aloadN (pc := 14) d21_14 rfl rfl ?_
  refine Own.W.aret (pc := 15) d21_15 rfl rfl rfl ?_ (Nat.le_of_ble_eq_true rfl) (Nat.le_of_ble_eq_true rfl)
  exact ⟨rfl, rfl, rfl⟩
theorem d23_0 : decode jdk_32_method_19_code 0 = .ok (.aload_n 0, 1) := by decide +kernel
theorem d23_1 : decode jdk_32_method_19_code 1 = .ok (.aload_n 1, 1) := by decide +kernel
theorem d23_2 : decode jdk_32_method_19_code 2 = .ok (.if_acmp .ne 5, 3) := by decide +kernel
theorem d23_5 : decode jdk_32_method_19_code 5 = .ok (.iconst 1, 1) := by decide +kernel
theorem d23_6 : decode jdk_32_method_19_code 6 = .ok (.ireturn, 1) := by decide +kernel
theorem pn_84671975 : plainFor (⟨"java/util/Optional", "equals", "(Ljava/lang/Object;)Z"⟩ : MethodName) = true := by first | exact plainFor_of_name (by first | (simp [plainName, overriddenIn]; done) | decide +kernel) | decide +kernel
set_option maxRecDepth 65536 in
set_option maxHeartbeats 4000000 in
theorem ct_oeq (G : Own.Gx) (hw : ∀ d ∈ tables_1, d.before G.a0 G.Z = true) (em : Addr) (hO : OptE G em) {As : List Own.Ent} {Li : List Own.LitE} :
    Own.Ct G [] (⟨"java/util/Optional", "equals", "(Ljava/lang/Object;)Z"⟩ : MethodName) jdk_32_method_19_code 3 (some .boolean) ({ frames := 0, cells := 0, slots := 0, locals := 0 } : Room) [.ref em, .ref em] As Li (fun v A L => v = some (.int 1) ∧ As = A ∧ Li = L) := by
  refine Own.Ct.intro pn_84671975 (Ls := [.val (.ref em), .val (.ref em), .unset]) rfl rfl ?_
  intro K
  refine Own.W.aloadN (pc := 0) d23_0 rfl rfl ?_
  refine Own.W.aloadN (pc := 1) d23_1 rfl rfl ?_
  refine Own.W.ac0 (pc := 2) d23_2 rfl rfl (by simp [Jvm.Free.XT.acmp]) ?_
  refine Own.W.iconst (pc := 5) (z := (1 : Int32)) d23_5 (by decide) ?_
  refine Own.W.iret (pc := 6) d23_6 rfl (by simp) (by first | rfl | decide) ?_ (Nat.le_of_ble_eq_true rfl) (Nat.le_of_ble_eq_true rfl)
  exact ⟨rfl, rfl, rfl⟩
theorem d12_0 : decode prog_21_method_1_code 0 = .ok (.aload_n 0, 1) := by decide +kernel
theorem d12_1 : decode prog_21_method_1_code 1 = .ok (.invokespecial 1, 3) := by decide +kernel
theorem pd_93421996 : parseMethodDescriptor "()V" = some ⟨[], none⟩ := by decide +kernel
theorem d12_4 : decode prog_21_method_1_code 4 = .ok (.aload_n 1, 1) := by decide +kernel
theorem d12_5 : decode prog_21_method_1_code 5 = .ok (.ldc 7, 2) := by decide +kernel
theorem d12_7 : decode prog_21_method_1_code 7 = .ok (.invokestatic 9, 3) := by decide +kernel
theorem pd_46442454 : parseMethodDescriptor "(Ljava/lang/Object;Ljava/lang/String;)Ljava/lang/Object;" = some ⟨[(.object "java/lang/Object"), (.object "java/lang/String")], some (.object "java/lang/Object")⟩ := by decide +kernel
theorem d12_10 : decode prog_21_method_1_code 10 = .ok (.pop, 1) := by decide +kernel
theorem d12_11 : decode prog_21_method_1_code 11 = .ok (.aload_n 2, 1) := by decide +kernel
theorem d12_12 : decode prog_21_method_1_code 12 = .ok (.ldc 15, 2) := by decide +kernel
theorem d12_14 : decode prog_21_method_1_code 14 = .ok (.invokestatic 9, 3) := by decide +kernel
theorem d12_17 : decode prog_21_method_1_code 17 = .ok (.pop, 1) := by decide +kernel
theorem d12_18 : decode prog_21_method_1_code 18 = .ok (.aload_n 0, 1) := by decide +kernel
theorem d12_19 : decode prog_21_method_1_code 19 = .ok (.aload_n 1, 1) := by decide +kernel
theorem d12_20 : decode prog_21_method_1_code 20 = .ok (.putfield 17, 3) := by decide +kernel
theorem d12_23 : decode prog_21_method_1_code 23 = .ok (.aload_n 0, 1) := by decide +kernel
theorem d12_24 : decode prog_21_method_1_code 24 = .ok (.aload_n 2, 1) := by decide +kernel
theorem d12_25 : decode prog_21_method_1_code 25 = .ok (.putfield 22, 3) := by decide +kernel
theorem d12_28 : decode prog_21_method_1_code 28 = .ok (.return_, 1) := by decide +kernel
theorem pn_85809814 : plainFor (⟨"com/example/stairwell/stairwell/core/Step", "<init>", "(Ljava/util/Optional;Ljava/lang/String;)V"⟩ : MethodName) = true := by first | exact plainFor_of_name (by first | (simp [plainName, overriddenIn]; done) | decide +kernel) | decide +kernel
set_option maxRecDepth 65536 in
set_option maxHeartbeats 4000000 in
theorem ct_sti (G : Own.Gx) (hw : ∀ d ∈ tables_1, d.before G.a0 G.Z = true) (hnw : G.nw = false) (wS : ∀ a ∈ Bundle.stringAtoms, a.before G.a0 G.Z = true) (hcw : Jvm.Lit.compactW.before G.a0 G.Z = true) (hht7 : Jvm.Lit.constHeld G.Z "com/example/stairwell/stairwell/core/Step" 7) (hht15 : Jvm.Lit.constHeld G.Z "com/example/stairwell/stairwell/core/Step" 15) {As : List Own.Ent} {Li : List Own.LitE} (p em n : Addr) (hA : Own.LA As Li) :
    Own.Ct G [] (⟨"com/example/stairwell/stairwell/core/Step", "<init>", "(Ljava/util/Optional;Ljava/lang/String;)V"⟩ : MethodName) prog_21_method_1_code 3 none ({ frames := 2, cells := 4, slots := 52, locals := 24 } : Room) [.ref p, .ref em, .ref n] ((p, true, Own.obj "com/example/stairwell/stairwell/core/Step" F_com_example_stairwell_stairwell_core_Step [.null, .null]) :: As) Li (fun v A L => ∃ A0, v = none ∧ A = (p, true, Own.obj "com/example/stairwell/stairwell/core/Step" F_com_example_stairwell_stairwell_core_Step [.ref em, .ref n]) :: A0 ∧ Own.Sub As A0 ∧ Own.LA A0 L) := by
  refine Own.Ct.intro pn_85809814 (Ls := [.val (.ref p), .val (.ref em), .val (.ref n)]) rfl rfl ?_
  intro K
  refine Own.W.aloadN (pc := 0) d12_0 rfl rfl ?_
  refine Own.W.callI (pc := 1) (ct_rec G hw p) d12_1 rfl (hw _ (List.mem_of_getElem? (i := 61) rfl)) (hw _ (List.mem_of_getElem? (i := 62) rfl)) (hw _ (List.mem_of_getElem? (i := 64) rfl)) (hw _ (List.mem_of_getElem? (i := 65) rfl)) (by decide) pd_93421996 rfl rfl (Nat.le_of_ble_eq_true rfl) (Nat.le_of_ble_eq_true rfl) (Nat.le_of_ble_eq_true rfl) (Nat.le_of_ble_eq_true rfl) ?_
  rintro _ _ _ ⟨rfl, rfl, rfl⟩
  refine Own.W.aloadN (pc := 4) d12_4 rfl rfl ?_
  refine Own.W.ldcG (pc := 5) (n := 28) (vs := (Own.txb "version").map Value.int) hnw d12_5 (hw _ (List.mem_of_getElem? (i := 67) rfl)) wS hht7 hcw (hA.cons1.g _) ⟨by decide +kernel, Own.txb_map _⟩ (by decide +kernel) (by decide) (Nat.le_of_ble_eq_true rfl) (Nat.le_of_ble_eq_true rfl) ?_
  intro a5 b5
  refine Own.W.perm ?_ (List.perm_middle (l₁ := [_, _]))
  refine Own.W.callS (pc := 7) (ct_rn2 G hw em a5) d12_7 (hw _ (List.mem_of_getElem? (i := 68) rfl)) (hw _ (List.mem_of_getElem? (i := 69) rfl)) (hw _ (List.mem_of_getElem? (i := 70) rfl)) (hw _ (List.mem_of_getElem? (i := 71) rfl)) (by decide) pd_46442454 rfl rfl (Nat.le_of_ble_eq_true rfl) (Nat.le_of_ble_eq_true rfl) (Nat.le_of_ble_eq_true rfl) (Nat.le_of_ble_eq_true rfl) ?_
  rintro _ _ _ ⟨rfl, rfl, rfl⟩
  refine Own.W.pop (pc := 10) d12_10 rfl ?_
  refine Own.W.aloadN (pc := 11) d12_11 rfl rfl ?_
  refine Own.W.ldcG (pc := 12) (n := 16) (vs := (Own.txb "name").map Value.int) hnw d12_12 (hw _ (List.mem_of_getElem? (i := 72) rfl)) wS hht15 hcw (hA.lit.cons1.g _) ⟨by decide +kernel, Own.txb_map _⟩ (by decide +kernel) (by decide) (Nat.le_of_ble_eq_true rfl) (Nat.le_of_ble_eq_true rfl) ?_
  intro a12 b12
  refine Own.W.perm ?_ (List.perm_middle (l₁ := [_, _]))
  refine Own.W.callS (pc := 14) (ct_rn2 G hw n a12) d12_14 (hw _ (List.mem_of_getElem? (i := 68) rfl)) (hw _ (List.mem_of_getElem? (i := 69) rfl)) (hw _ (List.mem_of_getElem? (i := 70) rfl)) (hw _ (List.mem_of_getElem? (i := 71) rfl)) (by decide) pd_46442454 rfl rfl (Nat.le_of_ble_eq_true rfl) (Nat.le_of_ble_eq_true rfl) (Nat.le_of_ble_eq_true rfl) (Nat.le_of_ble_eq_true rfl) ?_
  rintro _ _ _ ⟨rfl, rfl, rfl⟩
  refine Own.W.pop (pc := 17) d12_17 rfl ?_
  refine Own.W.aloadN (pc := 18) d12_18 rfl rfl ?_
  refine Own.W.aloadN (pc := 19) d12_19 rfl rfl ?_
  refine Own.W.putF (pc := 20) (host := "") (Or.inl (hw _ (List.mem_of_getElem? (i := 73) rfl))) (Via.refl (O := "com/example/stairwell/stairwell/core/Step")) d12_20 (Or.inr ⟨(hw _ (List.mem_of_getElem? (i := 74) rfl)), rfl, rfl⟩) (hw _ (List.mem_of_getElem? (i := 52) rfl)) (ty := (.object "java/util/Optional")) (by decide) rfl rfl (by repeat (first | exact Own.Upd.head | exact Own.Upd.mid | apply Own.Upd.tail)) (by repeat (first | exact Own.FUp.head | apply Own.FUp.tail)) ?_
  refine Own.W.aloadN (pc := 23) d12_23 rfl rfl ?_
  refine Own.W.aloadN (pc := 24) d12_24 rfl rfl ?_
  refine Own.W.putF (pc := 25) (host := "") (Or.inl (hw _ (List.mem_of_getElem? (i := 75) rfl))) (Via.refl (O := "com/example/stairwell/stairwell/core/Step")) d12_25 (Or.inr ⟨(hw _ (List.mem_of_getElem? (i := 76) rfl)), rfl, rfl⟩) (hw _ (List.mem_of_getElem? (i := 52) rfl)) (ty := (.object "java/lang/String")) (by decide) rfl rfl (by repeat (first | exact Own.Upd.head | exact Own.Upd.mid | apply Own.Upd.tail)) (by repeat (first | exact Own.FUp.head | apply Own.FUp.tail)) ?_
  refine Own.W.vret (pc := 28) d12_28 rfl  ?_ (Nat.le_of_ble_eq_true rfl) (Nat.le_of_ble_eq_true rfl)
  exact ⟨_, rfl, rfl, Own.Sub.cons (Own.Sub.cons (Own.Sub.cons (Own.Sub.cons (Own.Sub.refl _)))), hA.lit.lit⟩
theorem d10_0 : decode prog_21_method_3_code 0 = .ok (.new 18, 3) := by decide +kernel
theorem d10_3 : decode prog_21_method_3_code 3 = .ok (.dup, 1) := by decide +kernel
theorem d10_4 : decode prog_21_method_3_code 4 = .ok (.invokestatic 36, 3) := by decide +kernel
theorem d10_7 : decode prog_21_method_3_code 7 = .ok (.aload_n 0, 1) := by decide +kernel
theorem d10_8 : decode prog_21_method_3_code 8 = .ok (.invokespecial 33, 3) := by decide +kernel
theorem pd_845047 : parseMethodDescriptor "(Ljava/util/Optional;Ljava/lang/String;)V" = some ⟨[(.object "java/util/Optional"), (.object "java/lang/String")], none⟩ := by decide +kernel
theorem d10_11 : decode prog_21_method_3_code 11 = .ok (.areturn, 1) := by decide +kernel
theorem pn_1783500 : plainFor (⟨"com/example/stairwell/stairwell/core/Step", "repeatable", "(Ljava/lang/String;)Lcom/example/stairwell/stairwell/core/Step;"⟩ : MethodName) = true := by first | exact plainFor_of_name (by first | (simp [plainName, overriddenIn]; done) | decide +kernel) | decide +kernel
set_option maxRecDepth 65536 in
set_option maxHeartbeats 4000000 in
theorem ct_rep (G : Own.Gx) (hw : ∀ d ∈ tables_1, d.before G.a0 G.Z = true) (hnw : G.nw = false) (wS : ∀ a ∈ Bundle.stringAtoms, a.before G.a0 G.Z = true) (hcw : Jvm.Lit.compactW.before G.a0 G.Z = true) (hht7 : Jvm.Lit.constHeld G.Z "com/example/stairwell/stairwell/core/Step" 7) (hht15 : Jvm.Lit.constHeld G.Z "com/example/stairwell/stairwell/core/Step" 15) (em : Addr) (hO : OptE G em) {As : List Own.Ent} {Li : List Own.LitE} (n : Addr) (hA : Own.LA As Li) :
    Own.Ct G [] (⟨"com/example/stairwell/stairwell/core/Step", "repeatable", "(Ljava/lang/String;)Lcom/example/stairwell/stairwell/core/Step;"⟩ : MethodName) prog_21_method_3_code 1 (some (.object "com/example/stairwell/stairwell/core/Step")) ({ frames := 3, cells := 5, slots := 54, locals := 39 } : Room) [.ref n] As Li (fun v A L => ∃ p, v = some (.ref p) ∧ (p, false, Own.obj "com/example/stairwell/stairwell/core/Step" F_com_example_stairwell_stairwell_core_Step [.ref em, .ref n]) ∈ A ∧ Own.Sub As A ∧ Own.LA A L) := by
  refine Own.Ct.intro pn_1783500 (Ls := [.val (.ref n)]) rfl rfl ?_
  intro K
  refine Own.W.new (pc := 0) (hw _ (List.mem_of_getElem? (i := 51) rfl)) (hw _ (List.mem_of_getElem? (i := 52) rfl)) (hw _ (List.mem_of_getElem? (i := 49) rfl)) d10_0 (LF_com_example_stairwell_stairwell_core_Step G hw) (vs := [.null, .null]) (by decide) (Nat.le_of_ble_eq_true rfl) (Nat.le_of_ble_eq_true rfl) ?_
  intro o0
  refine Own.W.dup (pc := 3) d10_3 rfl ?_
  refine Own.W.callS (pc := 4) (ct_oem G hw em hO) d10_4 (hw _ (List.mem_of_getElem? (i := 53) rfl)) (hw _ (List.mem_of_getElem? (i := 54) rfl)) (hw _ (List.mem_of_getElem? (i := 55) rfl)) (hw _ (List.mem_of_getElem? (i := 56) rfl)) (by decide) pd_59025377 rfl rfl (Nat.le_of_ble_eq_true rfl) (Nat.le_of_ble_eq_true rfl) (Nat.le_of_ble_eq_true rfl) (Nat.le_of_ble_eq_true rfl) ?_
  rintro _ _ _ ⟨rfl, rfl, rfl⟩
  refine Own.W.aloadN (pc := 7) d10_7 rfl rfl ?_
  refine Own.W.callI (pc := 8) (ct_sti G hw hnw wS hcw hht7 hht15 o0 em n hA) d10_8 rfl (hw _ (List.mem_of_getElem? (i := 58) rfl)) (hw _ (List.mem_of_getElem? (i := 59) rfl)) (hw _ (List.mem_of_getElem? (i := 49) rfl)) (hw _ (List.mem_of_getElem? (i := 60) rfl)) (by decide) pd_845047 rfl rfl (Nat.le_of_ble_eq_true rfl) (Nat.le_of_ble_eq_true rfl) (Nat.le_of_ble_eq_true rfl) (Nat.le_of_ble_eq_true rfl) ?_
  rintro _ _ L1 ⟨A0, rfl, rfl, q1, q2⟩
  refine Own.W.frz Own.Frz.head ?_
  refine Own.W.aret (pc := 11) d10_11 rfl rfl rfl ?_ (Nat.le_of_ble_eq_true rfl) (Nat.le_of_ble_eq_true rfl)
  exact ⟨_, rfl, List.Mem.head _, fun e he => List.Mem.tail _ (q1 e he), q2.cons1⟩
theorem d15_0 : decode prog_21_method_5_code 0 = .ok (.aload_n 0, 1) := by decide +kernel
theorem d15_1 : decode prog_21_method_5_code 1 = .ok (.getfield 17, 3) := by decide +kernel
theorem d15_4 : decode prog_21_method_5_code 4 = .ok (.invokevirtual 59, 3) := by decide +kernel
theorem d15_7 : decode prog_21_method_5_code 7 = .ok (.ireturn, 1) := by decide +kernel
theorem pn_74074706 : plainFor (⟨"com/example/stairwell/stairwell/core/Step", "isRepeatable", "()Z"⟩ : MethodName) = true := by first | exact plainFor_of_name (by first | (simp [plainName, overriddenIn]; done) | decide +kernel) | decide +kernel
set_option maxRecDepth 65536 in
set_option maxHeartbeats 4000000 in
theorem ct_isr (G : Own.Gx) (hw : ∀ d ∈ tables_1, d.before G.a0 G.Z = true) (em : Addr) (hO : OptE G em) {As : List Own.Ent} {Li : List Own.LitE} {w : Bool} (p n : Addr) (hm : (p, w, Own.obj "com/example/stairwell/stairwell/core/Step" F_com_example_stairwell_stairwell_core_Step [.ref em, .ref n]) ∈ As) :
    Own.Ct G [] (⟨"com/example/stairwell/stairwell/core/Step", "isRepeatable", "()Z"⟩ : MethodName) prog_21_method_5_code 1 (some .boolean) ({ frames := 1, cells := 0, slots := 0, locals := 12 } : Room) [.ref p] As Li (fun v A L => v = some (.int 1) ∧ As = A ∧ Li = L) := by
  refine Own.Ct.intro pn_74074706 (Ls := [.val (.ref p)]) rfl rfl ?_
  intro K
  refine Own.W.aloadN (pc := 0) d15_0 rfl rfl ?_
  refine Own.W.getF (pc := 1) (host := "") (Or.inl (hw _ (List.mem_of_getElem? (i := 73) rfl))) (Via.refl (O := "com/example/stairwell/stairwell/core/Step")) d15_1 (by repeat (first | exact List.Mem.head _ | assumption | exact List.mem_append_right _ (List.Mem.head _) | apply List.Mem.tail)) (by repeat (first | exact Own.FAt.head | apply Own.FAt.tail)) ?_
  refine Own.W.callV (pc := 4) (ct_oie G hw em hO) d15_4 (C := "java/util/Optional") (Own.Is.old hO.2.1) (hw _ (List.mem_of_getElem? (i := 82) rfl)) (hw _ (List.mem_of_getElem? (i := 83) rfl)) (Own.nf_sel (hw _ (List.mem_of_getElem? (i := 85) rfl))) (hw _ (List.mem_of_getElem? (i := 85) rfl)) (hw _ (List.mem_of_getElem? (i := 84) rfl)) (hw _ (List.mem_of_getElem? (i := 55) rfl)) (hw _ (List.mem_of_getElem? (i := 86) rfl)) (by decide) pd_93422000 rfl rfl (Nat.le_of_ble_eq_true rfl) (Nat.le_of_ble_eq_true rfl) (Nat.le_of_ble_eq_true rfl) (Nat.le_of_ble_eq_true rfl) ?_
  rintro _ _ _ ⟨rfl, rfl, rfl⟩
  refine Own.W.iret (pc := 7) d15_7 rfl (by simp) (by first | rfl | decide) ?_ (Nat.le_of_ble_eq_true rfl) (Nat.le_of_ble_eq_true rfl)
  exact ⟨rfl, rfl, rfl⟩
theorem d17_0 : decode prog_21_method_12_code 0 = .ok (.aload_n 0, 1) := by decide +kernel
theorem d17_1 : decode prog_21_method_12_code 1 = .ok (.getfield 22, 3) := by decide +kernel
theorem d17_4 : decode prog_21_method_12_code 4 = .ok (.areturn, 1) := by decide +kernel
theorem pn_98346888 : plainFor (⟨"com/example/stairwell/stairwell/core/Step", "name", "()Ljava/lang/String;"⟩ : MethodName) = true := by first | exact plainFor_of_name (by first | (simp [plainName, overriddenIn]; done) | decide +kernel) | decide +kernel
set_option maxRecDepth 65536 in
set_option maxHeartbeats 4000000 in
theorem ct_nam (G : Own.Gx) (hw : ∀ d ∈ tables_1, d.before G.a0 G.Z = true) (em : Addr) {As : List Own.Ent} {Li : List Own.LitE} {w : Bool} (p n : Addr) (hm : (p, w, Own.obj "com/example/stairwell/stairwell/core/Step" F_com_example_stairwell_stairwell_core_Step [.ref em, .ref n]) ∈ As) :
    Own.Ct G [] (⟨"com/example/stairwell/stairwell/core/Step", "name", "()Ljava/lang/String;"⟩ : MethodName) prog_21_method_12_code 1 (some (.object "java/lang/String")) ({ frames := 0, cells := 0, slots := 0, locals := 0 } : Room) [.ref p] As Li (fun v A L => v = some (.ref n) ∧ As = A ∧ Li = L) := by
  refine Own.Ct.intro pn_98346888 (Ls := [.val (.ref p)]) rfl rfl ?_
  intro K
  refine Own.W.aloadN (pc := 0) d17_0 rfl rfl ?_
  refine Own.W.getF (pc := 1) (host := "") (Or.inl (hw _ (List.mem_of_getElem? (i := 75) rfl))) (Via.refl (O := "com/example/stairwell/stairwell/core/Step")) d17_1 (by repeat (first | exact List.Mem.head _ | assumption | exact List.mem_append_right _ (List.Mem.head _) | apply List.Mem.tail)) (by repeat (first | exact Own.FAt.head | apply Own.FAt.tail)) ?_
  refine Own.W.aret (pc := 4) d17_4 rfl rfl rfl ?_ (Nat.le_of_ble_eq_true rfl) (Nat.le_of_ble_eq_true rfl)
  exact ⟨rfl, rfl, rfl⟩
theorem d18_0 : decode prog_21_method_6_code 0 = .ok (.aload_n 0, 1) := by decide +kernel
theorem d18_1 : decode prog_21_method_6_code 1 = .ok (.getfield 17, 3) := by decide +kernel
theorem d18_4 : decode prog_21_method_6_code 4 = .ok (.invokedynamic 63, 5) := by decide +kernel
theorem d18_9 : decode prog_21_method_6_code 9 = .ok (.invokevirtual 67, 3) := by decide +kernel
theorem pd_90770657 : parseMethodDescriptor "(Ljava/util/function/Function;)Ljava/util/Optional;" = some ⟨[(.object "java/util/function/Function")], some (.object "java/util/Optional")⟩ := by decide +kernel
theorem d18_12 : decode prog_21_method_6_code 12 = .ok (.ldc 40, 2) := by decide +kernel
theorem d18_14 : decode prog_21_method_6_code 14 = .ok (.invokevirtual 71, 3) := by decide +kernel
theorem d18_17 : decode prog_21_method_6_code 17 = .ok (.checkcast 43, 3) := by decide +kernel
theorem d18_20 : decode prog_21_method_6_code 20 = .ok (.areturn, 1) := by decide +kernel
theorem pn_39094362 : plainFor (⟨"com/example/stairwell/stairwell/core/Step", "writtenVersion", "()Ljava/lang/String;"⟩ : MethodName) = true := by first | exact plainFor_of_name (by first | (simp [plainName, overriddenIn]; done) | decide +kernel) | decide +kernel
set_option maxRecDepth 65536 in
set_option maxHeartbeats 4000000 in
theorem ct_wrv (G : Own.Gx) (hw : ∀ d ∈ tables_1, d.before G.a0 G.Z = true) (hnw : G.nw = false) (wS : ∀ a ∈ Bundle.stringAtoms, a.before G.a0 G.Z = true) (hcw : Jvm.Lit.compactW.before G.a0 G.Z = true) (hht40 : Jvm.Lit.constHeld G.Z "com/example/stairwell/stairwell/core/Step" 40) (em : Addr) (hO : OptE G em) {As : List Own.Ent} {Li : List Own.LitE} {w : Bool} (p n : Addr) (hm : (p, w, Own.obj "com/example/stairwell/stairwell/core/Step" F_com_example_stairwell_stairwell_core_Step [.ref em, .ref n]) ∈ As) (hA : Own.LA As Li) :
    Own.Ct G [] (⟨"com/example/stairwell/stairwell/core/Step", "writtenVersion", "()Ljava/lang/String;"⟩ : MethodName) prog_21_method_6_code 1 (some (.object "java/lang/String")) ({ frames := 2, cells := 2, slots := 8, locals := 3073 } : Room) [.ref p] As Li (fun v A L => ∃ r, v = some (.ref r) ∧ Own.StrF A r ((Own.txb "R").map Value.int) ∧ Own.Sub As A ∧ Own.LA A L) := by
  refine Own.Ct.intro pn_39094362 (Ls := [.val (.ref p)]) rfl rfl ?_
  intro K
  refine Own.W.aloadN (pc := 0) d18_0 rfl rfl ?_
  refine Own.W.getF (pc := 1) (host := "") (Or.inl (hw _ (List.mem_of_getElem? (i := 73) rfl))) (Via.refl (O := "com/example/stairwell/stairwell/core/Step")) d18_1 (by repeat (first | exact List.Mem.head _ | assumption | exact List.mem_append_right _ (List.Mem.head _) | apply List.Mem.tail)) (by repeat (first | exact Own.FAt.head | apply Own.FAt.tail)) ?_
  refine Own.W.lam0 (pc := 4) d18_4 (hw _ (List.mem_of_getElem? (i := 100) rfl)) rfl (Nat.le_of_ble_eq_true rfl) ?_
  intro f
  refine Own.W.callV (pc := 9) (ct_oma G hw em hO f) d18_9 (C := "java/util/Optional") (Own.Is.old hO.2.1) (hw _ (List.mem_of_getElem? (i := 103) rfl)) (hw _ (List.mem_of_getElem? (i := 104) rfl)) (Own.nf_sel (hw _ (List.mem_of_getElem? (i := 106) rfl))) (hw _ (List.mem_of_getElem? (i := 106) rfl)) (hw _ (List.mem_of_getElem? (i := 105) rfl)) (hw _ (List.mem_of_getElem? (i := 55) rfl)) (hw _ (List.mem_of_getElem? (i := 107) rfl)) (by decide) pd_90770657 rfl rfl (Nat.le_of_ble_eq_true rfl) (Nat.le_of_ble_eq_true rfl) (Nat.le_of_ble_eq_true rfl) (Nat.le_of_ble_eq_true rfl) ?_
  rintro _ _ _ ⟨rfl, rfl, rfl⟩
  refine Own.W.ldcG (pc := 12) (n := 4) (vs := (Own.txb "R").map Value.int) hnw d18_12 (hw _ (List.mem_of_getElem? (i := 113) rfl)) wS hht40 hcw (hA.g _) ⟨by decide +kernel, Own.txb_map _⟩ (by decide +kernel) (by decide) (Nat.le_of_ble_eq_true rfl) (Nat.le_of_ble_eq_true rfl) ?_
  intro a12 b12
  refine Own.W.callV (pc := 14) (ct_oor G hw em hO a12) d18_14 (C := "java/util/Optional") (Own.Is.old hO.2.1) (hw _ (List.mem_of_getElem? (i := 114) rfl)) (hw _ (List.mem_of_getElem? (i := 115) rfl)) (Own.nf_sel (hw _ (List.mem_of_getElem? (i := 117) rfl))) (hw _ (List.mem_of_getElem? (i := 117) rfl)) (hw _ (List.mem_of_getElem? (i := 116) rfl)) (hw _ (List.mem_of_getElem? (i := 55) rfl)) (hw _ (List.mem_of_getElem? (i := 118) rfl)) (by decide) pd_77252822 rfl rfl (Nat.le_of_ble_eq_true rfl) (Nat.le_of_ble_eq_true rfl) (Nat.le_of_ble_eq_true rfl) (Nat.le_of_ble_eq_true rfl) ?_
  rintro _ _ _ ⟨rfl, rfl, rfl⟩
  refine Own.W.cast (pc := 17) (hw _ (List.mem_of_getElem? (i := 119) rfl)) d18_17 (Own.Is.mem (List.Mem.head _)) (Or.inl rfl) ?_
  refine Own.W.aret (pc := 20) d18_20 rfl rfl rfl ?_ (Nat.le_of_ble_eq_true rfl) (Nat.le_of_ble_eq_true rfl)
  exact ⟨_, rfl, (Own.StrF.lit (List.Mem.head _) (List.Mem.tail _ (List.Mem.head _))), (Own.Sub.cons (Own.Sub.cons (Own.Sub.refl _))), hA.lit⟩
theorem d22_0 : decode prog_21_method_7_code 0 = .ok (.aload_n 1, 1) := by decide +kernel
theorem d22_1 : decode prog_21_method_7_code 1 = .ok (.instanceof 18, 3) := by decide +kernel
theorem d22_4 : decode prog_21_method_7_code 4 = .ok (.ifCond .eq 40, 3) := by decide +kernel
theorem d22_7 : decode prog_21_method_7_code 7 = .ok (.aload_n 1, 1) := by decide +kernel
theorem d22_8 : decode prog_21_method_7_code 8 = .ok (.checkcast 18, 3) := by decide +kernel
theorem d22_11 : decode prog_21_method_7_code 11 = .ok (.astore_n 2, 1) := by decide +kernel
theorem d22_12 : decode prog_21_method_7_code 12 = .ok (.aload_n 0, 1) := by decide +kernel
theorem d22_13 : decode prog_21_method_7_code 13 = .ok (.getfield 17, 3) := by decide +kernel
theorem d22_16 : decode prog_21_method_7_code 16 = .ok (.aload_n 2, 1) := by decide +kernel
theorem d22_17 : decode prog_21_method_7_code 17 = .ok (.getfield 17, 3) := by decide +kernel
theorem d22_20 : decode prog_21_method_7_code 20 = .ok (.invokevirtual 75, 3) := by decide +kernel
theorem pd_96412080 : parseMethodDescriptor "(Ljava/lang/Object;)Z" = some ⟨[(.object "java/lang/Object")], some .boolean⟩ := by decide +kernel
theorem d22_23 : decode prog_21_method_7_code 23 = .ok (.ifCond .eq 21, 3) := by decide +kernel
theorem d22_26 : decode prog_21_method_7_code 26 = .ok (.aload_n 0, 1) := by decide +kernel
theorem d22_27 : decode prog_21_method_7_code 27 = .ok (.getfield 22, 3) := by decide +kernel
theorem d22_30 : decode prog_21_method_7_code 30 = .ok (.aload_n 2, 1) := by decide +kernel
theorem d22_31 : decode prog_21_method_7_code 31 = .ok (.getfield 22, 3) := by decide +kernel
theorem d22_34 : decode prog_21_method_7_code 34 = .ok (.invokevirtual 42, 3) := by decide +kernel
theorem d22_37 : decode prog_21_method_7_code 37 = .ok (.ifCond .eq 7, 3) := by decide +kernel
theorem d22_40 : decode prog_21_method_7_code 40 = .ok (.iconst 1, 1) := by decide +kernel
theorem d22_41 : decode prog_21_method_7_code 41 = .ok (.goto 4, 3) := by decide +kernel
theorem d22_45 : decode prog_21_method_7_code 45 = .ok (.ireturn, 1) := by decide +kernel
theorem d22_44 : decode prog_21_method_7_code 44 = .ok (.iconst 0, 1) := by decide +kernel
theorem pn_76814380 : plainFor (⟨"com/example/stairwell/stairwell/core/Step", "equals", "(Ljava/lang/Object;)Z"⟩ : MethodName) = true := by first | exact plainFor_of_name (by first | (simp [plainName, overriddenIn]; done) | decide +kernel) | decide +kernel
set_option maxRecDepth 65536 in
set_option maxHeartbeats 4000000 in
theorem ct_steq (G : Own.Gx) (hw : ∀ d ∈ tables_1, d.before G.a0 G.Z = true) (hC : Own.CSt G) (em : Addr) (hO : OptE G em) {As : List Own.Ent} {Li : List Own.LitE} (xs zs : List Int32) (hx : xs.length ≤ 3) (hz : zs.length ≤ 3) (n n2 : Addr) (sx : Own.StrF As n (xs.map Value.int)) (sz : Own.StrF As n2 (zs.map Value.int)) {w w2 : Bool} (p p2 : Addr) (hm : (p, w, Own.obj "com/example/stairwell/stairwell/core/Step" F_com_example_stairwell_stairwell_core_Step [.ref em, .ref n]) ∈ As) (hm2 : (p2, w2, Own.obj "com/example/stairwell/stairwell/core/Step" F_com_example_stairwell_stairwell_core_Step [.ref em, .ref n2]) ∈ As) :
    Own.Ct G [] (⟨"com/example/stairwell/stairwell/core/Step", "equals", "(Ljava/lang/Object;)Z"⟩ : MethodName) prog_21_method_7_code 3 (some .boolean) ({ frames := 2, cells := 0, slots := 0, locals := 28 } : Room) [.ref p, .ref p2] As Li (fun v A L => v = some (.int (Own.eqI xs zs)) ∧ As = A ∧ Li = L) := by
  refine Own.Ct.intro pn_76814380 (Ls := [.val (.ref p), .val (.ref p2), .unset]) rfl rfl ?_
  intro K
  refine Own.W.aloadN (pc := 0) d22_0 rfl rfl ?_
  refine Own.W.inst (pc := 1) (hw _ (List.mem_of_getElem? (i := 51) rfl)) d22_1 (Own.Is.mem hm2) (Or.inl rfl) ?_
  refine Own.W.if_eq (pc := 4) 44 d22_4 (by decide) (by decide) (fun h4 => absurd h4 (by decide)) ?_
  intro h4
  refine Own.W.aloadN (pc := 7) d22_7 rfl rfl ?_
  refine Own.W.cast (pc := 8) (hw _ (List.mem_of_getElem? (i := 51) rfl)) d22_8 (Own.Is.mem hm2) (Or.inl rfl) ?_
  refine Own.W.astoreN (pc := 11) (Ls' := [_, _, _]) d22_11 rfl rfl rfl ?_
  refine Own.W.aloadN (pc := 12) d22_12 rfl rfl ?_
  refine Own.W.getF (pc := 13) (host := "") (Or.inl (hw _ (List.mem_of_getElem? (i := 73) rfl))) (Via.refl (O := "com/example/stairwell/stairwell/core/Step")) d22_13 hm (by repeat (first | exact Own.FAt.head | apply Own.FAt.tail)) ?_
  refine Own.W.aloadN (pc := 16) d22_16 rfl rfl ?_
  refine Own.W.getF (pc := 17) (host := "") (Or.inl (hw _ (List.mem_of_getElem? (i := 73) rfl))) (Via.refl (O := "com/example/stairwell/stairwell/core/Step")) d22_17 hm2 (by repeat (first | exact Own.FAt.head | apply Own.FAt.tail)) ?_
  refine Own.W.callV (pc := 20) (ct_oeq G hw em hO) d22_20 (C := "java/util/Optional") (Own.Is.old hO.2.1) (hw _ (List.mem_of_getElem? (i := 126) rfl)) (hw _ (List.mem_of_getElem? (i := 127) rfl)) (Own.nf_sel (hw _ (List.mem_of_getElem? (i := 129) rfl))) (hw _ (List.mem_of_getElem? (i := 129) rfl)) (hw _ (List.mem_of_getElem? (i := 128) rfl)) (hw _ (List.mem_of_getElem? (i := 55) rfl)) (hw _ (List.mem_of_getElem? (i := 130) rfl)) (by decide) pd_96412080 rfl rfl (Nat.le_of_ble_eq_true rfl) (Nat.le_of_ble_eq_true rfl) (Nat.le_of_ble_eq_true rfl) (Nat.le_of_ble_eq_true rfl) ?_
  rintro _ _ _ ⟨rfl, rfl, rfl⟩
  refine Own.W.if_eq (pc := 23) 44 d22_23 (by decide) (by decide) (fun h23 => absurd h23 (by decide)) ?_
  intro h23
  refine Own.W.aloadN (pc := 26) d22_26 rfl rfl ?_
  refine Own.W.getF (pc := 27) (host := "") (Or.inl (hw _ (List.mem_of_getElem? (i := 75) rfl))) (Via.refl (O := "com/example/stairwell/stairwell/core/Step")) d22_27 hm (by repeat (first | exact Own.FAt.head | apply Own.FAt.tail)) ?_
  refine Own.W.aloadN (pc := 30) d22_30 rfl rfl ?_
  refine Own.W.getF (pc := 31) (host := "") (Or.inl (hw _ (List.mem_of_getElem? (i := 75) rfl))) (Via.refl (O := "com/example/stairwell/stairwell/core/Step")) d22_31 hm2 (by repeat (first | exact Own.FAt.head | apply Own.FAt.tail)) ?_
  refine Own.W.callV (pc := 34) (ct_seq G hw hC n n2 xs zs (by omega) (by omega) sx.str sz.str) d22_34 (C := "java/lang/String") sx.is (hw _ (List.mem_of_getElem? (i := 131) rfl)) (hw _ (List.mem_of_getElem? (i := 38) rfl)) (Own.nf_sel (hw _ (List.mem_of_getElem? (i := 40) rfl))) (hw _ (List.mem_of_getElem? (i := 40) rfl)) (hw _ (List.mem_of_getElem? (i := 39) rfl)) (hw _ (List.mem_of_getElem? (i := 6) rfl)) (hw _ (List.mem_of_getElem? (i := 41) rfl)) (by decide) pd_96412080 rfl rfl (Nat.le_of_ble_eq_true rfl) (Nat.le_of_ble_eq_true rfl) (Nat.le_of_ble_eq_true rfl) (Nat.le_of_ble_eq_true rfl) ?_
  rintro _ _ _ ⟨rfl, rfl, rfl⟩
  by_cases he : xs = zs
  · have e1 : Own.eqI xs zs = 1 := if_pos he
    rw [e1]
    refine Own.W.if_eq (pc := 37) 44 d22_37 (by decide) (by decide) (fun h37 => absurd h37 (by decide)) ?_
    intro h37
    refine Own.W.iconst (pc := 40) (z := (1 : Int32)) d22_40 (by decide) ?_
    refine Own.W.goto (pc := 41) 45 d22_41 (by decide) (by decide) ?_
    refine Own.W.iret (pc := 45) d22_45 rfl (by simp) (by first | rfl | decide) ?_ (Nat.le_of_ble_eq_true rfl) (Nat.le_of_ble_eq_true rfl)
    exact ⟨by first | rfl | rw [e1], rfl, rfl⟩
  · have e1 : Own.eqI xs zs = 0 := if_neg he
    rw [e1]
    refine Own.W.if_eq (pc := 37) 44 d22_37 (by decide) (by decide) ?_ (fun h37 => absurd h37 (fun q => q rfl))
    intro h37
    refine Own.W.iconst (pc := 44) (z := (0 : Int32)) d22_44 (by decide) ?_
    refine Own.W.iret (pc := 45) d22_45 rfl (by simp) (by first | rfl | decide) ?_ (Nat.le_of_ble_eq_true rfl) (Nat.le_of_ble_eq_true rfl)
    exact ⟨by first | rfl | rw [e1], rfl, rfl⟩
theorem d32_0 : decode jdk_48_method_13_code 0 = .ok (.iconst 0, 1) := by decide +kernel
theorem d32_1 : decode jdk_48_method_13_code 1 = .ok (.istore_n 3, 1) := by decide +kernel
theorem d32_2 : decode jdk_48_method_13_code 2 = .ok (.iload_n 2, 1) := by decide +kernel
theorem d32_3 : decode jdk_48_method_13_code 3 = .ok (.bipush 7, 2) := by decide +kernel
theorem d32_5 : decode jdk_48_method_13_code 5 = .ok (.if_icmp .le 44, 3) := by decide +kernel
theorem d32_49 : decode jdk_48_method_13_code 49 = .ok (.iload_n 3, 1) := by decide +kernel
theorem d32_50 : decode jdk_48_method_13_code 50 = .ok (.iload_n 2, 1) := by decide +kernel
theorem d32_51 : decode jdk_48_method_13_code 51 = .ok (.if_icmp .ge 20, 3) := by decide +kernel
theorem d32_71 : decode jdk_48_method_13_code 71 = .ok (.iconst (-1), 1) := by decide +kernel
theorem d32_72 : decode jdk_48_method_13_code 72 = .ok (.ireturn, 1) := by decide +kernel
theorem d32_54 : decode jdk_48_method_13_code 54 = .ok (.aload_n 0, 1) := by decide +kernel
theorem d32_55 : decode jdk_48_method_13_code 55 = .ok (.iload_n 3, 1) := by decide +kernel
theorem d32_56 : decode jdk_48_method_13_code 56 = .ok (.baload, 1) := by decide +kernel
theorem d32_57 : decode jdk_48_method_13_code 57 = .ok (.aload_n 1, 1) := by decide +kernel
theorem d32_58 : decode jdk_48_method_13_code 58 = .ok (.iload_n 3, 1) := by decide +kernel
theorem d32_59 : decode jdk_48_method_13_code 59 = .ok (.baload, 1) := by decide +kernel
theorem d32_60 : decode jdk_48_method_13_code 60 = .ok (.if_icmp .eq 5, 3) := by decide +kernel
theorem d32_65 : decode jdk_48_method_13_code 65 = .ok (.iinc 3 1, 3) := by decide +kernel
theorem d32_68 : decode jdk_48_method_13_code 68 = .ok (.goto (-19), 3) := by decide +kernel
theorem d32_63 : decode jdk_48_method_13_code 63 = .ok (.iload_n 3, 1) := by decide +kernel
theorem d32_64 : decode jdk_48_method_13_code 64 = .ok (.ireturn, 1) := by decide +kernel
theorem pn_89695472 : plainFor (⟨"jdk/internal/util/ArraysSupport", "mismatch", "([B[BI)I"⟩ : MethodName) = true := by first | exact plainFor_of_name (by first | (simp [plainName, overriddenIn]; done) | decide +kernel) | decide +kernel
set_option maxRecDepth 65536 in
set_option maxHeartbeats 4000000 in
theorem ct_mis (G : Own.Gx) (hw : ∀ d ∈ tables_1, d.before G.a0 G.Z = true) {As : List Own.Ent} {Li : List Own.LitE} (a b : Addr) (xs zs : List Int32) (hx : xs.length ≤ 3) (hz : zs.length ≤ 3) (ha : Own.AVin G As a .byte (xs.map Value.int)) (hb : Own.AVin G As b .byte (zs.map Value.int)) (n : Nat) (h1 : n ≤ xs.length) (h2 : n ≤ zs.length) :
    Own.Ct G [] (⟨"jdk/internal/util/ArraysSupport", "mismatch", "([B[BI)I"⟩ : MethodName) jdk_48_method_13_code 4 (some .int) ({ frames := 0, cells := 0, slots := 0, locals := 0 } : Room) [.ref a, .ref b, .int n.toInt32] As Li (fun v A L => ∃ r, v = some (.int r) ∧ As = A ∧ Li = L ∧ ((r = -1 ∧ ∀ k, k < n → xs[k]? = zs[k]?) ∨ ∃ k : Nat, r = k.toInt32 ∧ k < n ∧ xs[k]? ≠ zs[k]?)) := by
  refine Own.Ct.intro pn_89695472 (Ls := [.val (.ref a), .val (.ref b), .val (.int n.toInt32), .unset]) rfl rfl ?_
  intro K
  refine Own.W.iconst (pc := 0) (z := (0 : Int32)) d32_0 (by decide) ?_
  refine Own.W.istoreN (pc := 1) (Ls' := [_, _, _, _]) d32_1 rfl rfl ?_
  refine Own.W.iloadN (pc := 2) d32_2 rfl ?_
  refine Own.W.bipush (pc := 3) (z := (7 : Int32)) d32_3 (by decide) ?_
  refine Own.W.ic_le (pc := 5) 49 d32_5 (by decide) (by decide) ?_ (fun h5 => absurd h5 (Own.n_nlt (a := 7) (by omega) (by decide)))
  intro h5
  suffices loop : ∀ (m k : Nat), k + m = n → (∀ j, j < k → xs[j]? = zs[j]?) → Own.W G K (⟨"jdk/internal/util/ArraysSupport", "mismatch", "([B[BI)I"⟩ : MethodName) jdk_48_method_13_code (some .int) ({ frames := 0, cells := 0, slots := 0, locals := 0 } : Room) (fun v A L => ∃ r, v = some (.int r) ∧ As = A ∧ Li = L ∧ ((r = -1 ∧ ∀ k, k < n → xs[k]? = zs[k]?) ∨ ∃ k : Nat, r = k.toInt32 ∧ k < n ∧ xs[k]? ≠ zs[k]?)) As Li 0 0 49 [.val (.ref a), .val (.ref b), .val (.int n.toInt32), .val (.int k.toInt32)] [] from loop n 0 (by omega) (fun j h => absurd h (Nat.not_lt_zero _))
  intro m
  induction m with
  | zero =>
    intro k hk hall
    obtain rfl : k = n := by omega
    refine Own.W.iloadN (pc := 49) d32_49 rfl ?_
    refine Own.W.iloadN (pc := 50) d32_50 rfl ?_
    refine Own.W.ic_ge (pc := 51) 71 d32_51 (by decide) (by decide) ?_ (fun h51 => absurd h51 (Own.n_nlt (Nat.le_refl _) (by omega)))
    intro h51
    refine Own.W.iconst (pc := 71) (z := (-1 : Int32)) d32_71 (by decide) ?_
    refine Own.W.iret (pc := 72) d32_72 rfl (by simp) rfl ?_ (Nat.le_of_ble_eq_true rfl) (Nat.le_of_ble_eq_true rfl)
    exact ⟨_, rfl, rfl, rfl, Or.inl ⟨rfl, hall⟩⟩
  | succ m ih =>
    intro k hk hall
    have hkx : k < xs.length := by omega
    have hkz : k < zs.length := by omega
    refine Own.W.iloadN (pc := 49) d32_49 rfl ?_
    refine Own.W.iloadN (pc := 50) d32_50 rfl ?_
    refine Own.W.ic_ge (pc := 51) 71 d32_51 (by decide) (by decide) (fun h51 => absurd h51 (fun q => q (Own.n_lt (by omega) (by omega)))) ?_
    intro h51
    refine Own.W.aloadN (pc := 54) d32_54 rfl rfl ?_
    refine Own.W.iloadN (pc := 55) d32_55 rfl ?_
    refine Own.W.baload (pc := 56) d32_56 ha (Own.n_nn (by omega)) (v := .int xs[k]) (by rw [Own.n_clamp (by omega)]; simp [hkx]) ?_
    refine Own.W.aloadN (pc := 57) d32_57 rfl rfl ?_
    refine Own.W.iloadN (pc := 58) d32_58 rfl ?_
    refine Own.W.baload (pc := 59) d32_59 hb (Own.n_nn (by omega)) (v := .int zs[k]) (by rw [Own.n_clamp (by omega)]; simp [hkz]) ?_
    refine Own.W.ic_eq (pc := 60) 65 d32_60 (by decide) (by decide) ?_ ?_
    · intro h60
      refine Own.W.iinc (pc := 65) (z := (1 : Int32)) (Ls' := [_, _, _, _]) d32_65 rfl (by decide) rfl rfl ?_
      refine Own.W.goto (pc := 68) 49 d32_68 (by decide) (by decide) ?_
      have ih' := ih (k + 1) (by omega) (fun j hj => by
        rcases Nat.lt_or_eq_of_le (Nat.le_of_lt_succ hj) with q | rfl
        · exact hall j q
        · rw [List.getElem?_eq_getElem hkx, List.getElem?_eq_getElem hkz, h60])
      rw [← Own.n_succ] at ih'
      exact ih'
    · intro h60
      refine Own.W.iloadN (pc := 63) d32_63 rfl ?_
      refine Own.W.iret (pc := 64) d32_64 rfl (by simp) rfl ?_ (Nat.le_of_ble_eq_true rfl) (Nat.le_of_ble_eq_true rfl)
      exact ⟨_, rfl, rfl, rfl, Or.inr ⟨k, rfl, by omega, by rw [List.getElem?_eq_getElem hkx, List.getElem?_eq_getElem hkz]; exact fun q => h60 (Option.some.inj q)⟩⟩
theorem d33_0 : decode jdk_43_method_44_code 0 = .ok (.aload_n 0, 1) := by decide +kernel
theorem d33_1 : decode jdk_43_method_44_code 1 = .ok (.iload_n 1, 1) := by decide +kernel
theorem d33_2 : decode jdk_43_method_44_code 2 = .ok (.baload, 1) := by decide +kernel
theorem d33_3 : decode jdk_43_method_44_code 3 = .ok (.sipush 255, 3) := by decide +kernel
theorem d33_6 : decode jdk_43_method_44_code 6 = .ok (.iand, 1) := by decide +kernel
theorem d33_7 : decode jdk_43_method_44_code 7 = .ok (.i2c, 1) := by decide +kernel
theorem d33_8 : decode jdk_43_method_44_code 8 = .ok (.ireturn, 1) := by decide +kernel
theorem pn_4363527 : plainFor (⟨"java/lang/StringLatin1", "getChar", "([BI)C"⟩ : MethodName) = true := by first | exact plainFor_of_name (by first | (simp [plainName, overriddenIn]; done) | decide +kernel) | decide +kernel
set_option maxRecDepth 65536 in
set_option maxHeartbeats 4000000 in
theorem ct_gch (G : Own.Gx) (hw : ∀ d ∈ tables_1, d.before G.a0 G.Z = true) {As : List Own.Ent} {Li : List Own.LitE} (b : Addr) (xs : List Int32) (k : Nat) (hx : xs.length ≤ 3) (hk : k < xs.length) (hb : Own.AVin G As b .byte (xs.map Value.int)) :
    Own.Ct G [] (⟨"java/lang/StringLatin1", "getChar", "([BI)C"⟩ : MethodName) jdk_43_method_44_code 2 (some .char) ({ frames := 0, cells := 0, slots := 0, locals := 0 } : Room) [.ref b, .int k.toInt32] As Li (fun v A L => v = some (.int (xs[k] &&& 255)) ∧ As = A ∧ Li = L) := by
  refine Own.Ct.intro pn_4363527 (Ls := [.val (.ref b), .val (.int k.toInt32)]) rfl rfl ?_
  intro K
  refine Own.W.aloadN (pc := 0) d33_0 rfl rfl ?_
  refine Own.W.iloadN (pc := 1) d33_1 rfl ?_
  refine Own.W.baload (pc := 2) d33_2 hb (Own.n_nn (by omega)) (v := .int xs[k]) (by rw [Own.n_clamp (by omega)]; simp [hk]) ?_
  refine Own.W.sipush (pc := 3) (z := (255 : Int32)) d33_3 (by decide) ?_
  refine Own.W.iand (pc := 6) d33_6 rfl ?_
  refine Own.W.i2c (pc := 7) d33_7 (i2c_mask _) ?_
  refine Own.W.iret (pc := 8) d33_8 rfl (by simp) (congrArg Value.int (i2c_mask _)) ?_ (Nat.le_of_ble_eq_true rfl) (Nat.le_of_ble_eq_true rfl)
  exact ⟨rfl, rfl, rfl⟩
theorem own_sub0 {a b : Int32} : a - b = 0 ↔ a = b := by
  constructor
  · intro h
    have e : a - b + b = a := Int32.sub_add_cancel a b
    rw [h] at e
    rw [← e]; exact Int32.zero_add b
  · rintro rfl; exact Int32.sub_self _
theorem own_ext {xs zs : List Int32} (h : ∀ k, k < min xs.length zs.length → xs[k]? = zs[k]?) : xs.length.toInt32 = zs.length.toInt32 → xs.length ≤ 3 → zs.length ≤ 3 → xs = zs := fun e h1 h2 => by
  have hl : xs.length = zs.length := Own.n_inj (by omega) (by omega) e
  refine List.ext_getElem? fun k => ?_
  by_cases hk : k < xs.length
  · exact h k (by omega)
  · rw [List.getElem?_eq_none (by omega), List.getElem?_eq_none (by omega)]
theorem d30_0 : decode jdk_43_method_15_code 0 = .ok (.iload_n 2, 1) := by decide +kernel
theorem d30_1 : decode jdk_43_method_15_code 1 = .ok (.iload_n 3, 1) := by decide +kernel
theorem d30_2 : decode jdk_43_method_15_code 2 = .ok (.invokestatic 38, 3) := by decide +kernel
theorem pd_84293393 : parseMethodDescriptor "(II)I" = some ⟨[.int, .int], some .int⟩ := by decide +kernel
theorem d30_5 : decode jdk_43_method_15_code 5 = .ok (.istore 4, 2) := by decide +kernel
theorem d30_7 : decode jdk_43_method_15_code 7 = .ok (.aload_n 0, 1) := by decide +kernel
theorem d30_8 : decode jdk_43_method_15_code 8 = .ok (.aload_n 1, 1) := by decide +kernel
theorem d30_9 : decode jdk_43_method_15_code 9 = .ok (.iload 4, 2) := by decide +kernel
theorem d30_11 : decode jdk_43_method_15_code 11 = .ok (.invokestatic 44, 3) := by decide +kernel
theorem pd_68858434 : parseMethodDescriptor "([B[BI)I" = some ⟨[(.array .byte), (.array .byte), .int], some .int⟩ := by decide +kernel
theorem d30_14 : decode jdk_43_method_15_code 14 = .ok (.istore 5, 2) := by decide +kernel
theorem d30_16 : decode jdk_43_method_15_code 16 = .ok (.iload 5, 2) := by decide +kernel
theorem d30_18 : decode jdk_43_method_15_code 18 = .ok (.ifCond .ge 9, 3) := by decide +kernel
theorem d30_21 : decode jdk_43_method_15_code 21 = .ok (.iload_n 2, 1) := by decide +kernel
theorem d30_22 : decode jdk_43_method_15_code 22 = .ok (.iload_n 3, 1) := by decide +kernel
theorem d30_23 : decode jdk_43_method_15_code 23 = .ok (.isub, 1) := by decide +kernel
theorem d30_24 : decode jdk_43_method_15_code 24 = .ok (.goto 16, 3) := by decide +kernel
theorem d30_40 : decode jdk_43_method_15_code 40 = .ok (.ireturn, 1) := by decide +kernel
theorem d30_27 : decode jdk_43_method_15_code 27 = .ok (.aload_n 0, 1) := by decide +kernel
theorem d30_28 : decode jdk_43_method_15_code 28 = .ok (.iload 5, 2) := by decide +kernel
theorem d30_30 : decode jdk_43_method_15_code 30 = .ok (.invokestatic 50, 3) := by decide +kernel
theorem pd_7843551 : parseMethodDescriptor "([BI)C" = some ⟨[(.array .byte), .int], some .char⟩ := by decide +kernel
theorem d30_33 : decode jdk_43_method_15_code 33 = .ok (.aload_n 1, 1) := by decide +kernel
theorem d30_34 : decode jdk_43_method_15_code 34 = .ok (.iload 5, 2) := by decide +kernel
theorem d30_36 : decode jdk_43_method_15_code 36 = .ok (.invokestatic 50, 3) := by decide +kernel
theorem d30_39 : decode jdk_43_method_15_code 39 = .ok (.isub, 1) := by decide +kernel
theorem pn_8121695 : plainFor (⟨"java/lang/StringLatin1", "compareTo", "([B[BII)I"⟩ : MethodName) = true := by first | exact plainFor_of_name (by first | (simp [plainName, overriddenIn]; done) | decide +kernel) | decide +kernel
set_option maxRecDepth 65536 in
set_option maxHeartbeats 4000000 in
theorem ct_cm4 (G : Own.Gx) (hw : ∀ d ∈ tables_1, d.before G.a0 G.Z = true) {As : List Own.Ent} {Li : List Own.LitE} (a b : Addr) (xs zs : List Int32) (hx : xs.length ≤ 3) (hz : zs.length ≤ 3) (ha : Own.AVin G As a .byte (xs.map Value.int)) (hb : Own.AVin G As b .byte (zs.map Value.int)) (bx : ∀ x ∈ xs, (x &&& 255).toInt8.toInt32 = x) (bz : ∀ x ∈ zs, (x &&& 255).toInt8.toInt32 = x) :
    Own.Ct G [] (⟨"java/lang/StringLatin1", "compareTo", "([B[BII)I"⟩ : MethodName) jdk_43_method_15_code 6 (some .int) ({ frames := 1, cells := 0, slots := 0, locals := 15 } : Room) [.ref a, .ref b, .int xs.length.toInt32, .int zs.length.toInt32] As Li (fun v A L => ∃ r, v = some (.int r) ∧ As = A ∧ Li = L ∧ (r = 0 ↔ xs = zs)) := by
  refine Own.Ct.intro pn_8121695 (Ls := [.val (.ref a), .val (.ref b), .val (.int xs.length.toInt32), .val (.int zs.length.toInt32), .unset, .unset]) rfl rfl ?_
  intro K
  refine Own.W.iloadN (pc := 0) d30_0 rfl ?_
  refine Own.W.iloadN (pc := 1) d30_1 rfl ?_
  refine Own.W.callS (pc := 2) (ct_min G hw xs.length zs.length (by omega) (by omega)) d30_2 (hw _ (List.mem_of_getElem? (i := 162) rfl)) (hw _ (List.mem_of_getElem? (i := 163) rfl)) (hw _ (List.mem_of_getElem? (i := 164) rfl)) (hw _ (List.mem_of_getElem? (i := 165) rfl)) (by decide) pd_84293393 rfl rfl (Nat.le_of_ble_eq_true rfl) (Nat.le_of_ble_eq_true rfl) (Nat.le_of_ble_eq_true rfl) (Nat.le_of_ble_eq_true rfl) ?_
  rintro _ _ _ ⟨rfl, rfl, rfl⟩
  refine Own.W.istore (pc := 5) (Ls' := [_, _, _, _, _, _]) d30_5 rfl rfl ?_
  refine Own.W.aloadN (pc := 7) d30_7 rfl rfl ?_
  refine Own.W.aloadN (pc := 8) d30_8 rfl rfl ?_
  refine Own.W.iload (pc := 9) d30_9 rfl ?_
  refine Own.W.callS (pc := 11) (ct_mis G hw a b xs zs hx hz ha hb (min xs.length zs.length) (by omega) (by omega)) d30_11 (hw _ (List.mem_of_getElem? (i := 166) rfl)) (hw _ (List.mem_of_getElem? (i := 167) rfl)) (hw _ (List.mem_of_getElem? (i := 168) rfl)) (hw _ (List.mem_of_getElem? (i := 169) rfl)) (by decide) pd_68858434 rfl rfl (Nat.le_of_ble_eq_true rfl) (Nat.le_of_ble_eq_true rfl) (Nat.le_of_ble_eq_true rfl) (Nat.le_of_ble_eq_true rfl) ?_
  rintro _ _ _ ⟨r, rfl, rfl, rfl, hr⟩
  rcases hr with ⟨rfl, hall⟩ | ⟨k, rfl, hk, hne⟩
  · refine Own.W.istore (pc := 14) (Ls' := [_, _, _, _, _, _]) d30_14 rfl rfl ?_
    refine Own.W.iload (pc := 16) d30_16 rfl ?_
    refine Own.W.if_ge (pc := 18) 27 d30_18 (by decide) (by decide) (fun h18 => absurd h18 (fun q => q (by decide))) ?_
    intro h18
    refine Own.W.iloadN (pc := 21) d30_21 rfl ?_
    refine Own.W.iloadN (pc := 22) d30_22 rfl ?_
    refine Own.W.isub (pc := 23) d30_23 rfl ?_
    refine Own.W.goto (pc := 24) 40 d30_24 (by decide) (by decide) ?_
    refine Own.W.iret (pc := 40) d30_40 rfl (by simp) rfl ?_ (Nat.le_of_ble_eq_true rfl) (Nat.le_of_ble_eq_true rfl)
    exact ⟨_, rfl, rfl, rfl, own_sub0.trans ⟨fun e => own_ext hall e hx hz, fun e => by rw [e]⟩⟩
  · have hkx : k < xs.length := by omega
    have hkz : k < zs.length := by omega
    refine Own.W.istore (pc := 14) (Ls' := [_, _, _, _, _, _]) d30_14 rfl rfl ?_
    refine Own.W.iload (pc := 16) d30_16 rfl ?_
    refine Own.W.if_ge (pc := 18) 27 d30_18 (by decide) (by decide) ?_ (fun h18 => absurd h18 (Own.n_nn (by omega)))
    intro h18
    refine Own.W.aloadN (pc := 27) d30_27 rfl rfl ?_
    refine Own.W.iload (pc := 28) d30_28 rfl ?_
    refine Own.W.callS (pc := 30) (ct_gch G hw a xs k hx hkx ha) d30_30 (hw _ (List.mem_of_getElem? (i := 170) rfl)) (hw _ (List.mem_of_getElem? (i := 171) rfl)) (hw _ (List.mem_of_getElem? (i := 45) rfl)) (hw _ (List.mem_of_getElem? (i := 172) rfl)) (by decide) pd_7843551 rfl rfl (Nat.le_of_ble_eq_true rfl) (Nat.le_of_ble_eq_true rfl) (Nat.le_of_ble_eq_true rfl) (Nat.le_of_ble_eq_true rfl) ?_
    rintro _ _ _ ⟨rfl, rfl, rfl⟩
    refine Own.W.aloadN (pc := 33) d30_33 rfl rfl ?_
    refine Own.W.iload (pc := 34) d30_34 rfl ?_
    refine Own.W.callS (pc := 36) (ct_gch G hw b zs k hz hkz hb) d30_36 (hw _ (List.mem_of_getElem? (i := 170) rfl)) (hw _ (List.mem_of_getElem? (i := 171) rfl)) (hw _ (List.mem_of_getElem? (i := 45) rfl)) (hw _ (List.mem_of_getElem? (i := 172) rfl)) (by decide) pd_7843551 rfl rfl (Nat.le_of_ble_eq_true rfl) (Nat.le_of_ble_eq_true rfl) (Nat.le_of_ble_eq_true rfl) (Nat.le_of_ble_eq_true rfl) ?_
    rintro _ _ _ ⟨rfl, rfl, rfl⟩
    refine Own.W.isub (pc := 39) d30_39 rfl ?_
    refine Own.W.iret (pc := 40) d30_40 rfl (by simp) rfl ?_ (Nat.le_of_ble_eq_true rfl) (Nat.le_of_ble_eq_true rfl)
    exact ⟨_, rfl, rfl, rfl, own_sub0.trans ⟨fun e => absurd (by rw [List.getElem?_eq_getElem hkx, List.getElem?_eq_getElem hkz, ← bx _ (List.getElem_mem hkx), ← bz _ (List.getElem_mem hkz), e]) hne, fun e => absurd (by rw [e]) hne⟩⟩
theorem d29_0 : decode jdk_43_method_14_code 0 = .ok (.aload_n 0, 1) := by decide +kernel
theorem d29_1 : decode jdk_43_method_14_code 1 = .ok (.arraylength, 1) := by decide +kernel
theorem d29_2 : decode jdk_43_method_14_code 2 = .ok (.istore_n 2, 1) := by decide +kernel
theorem d29_3 : decode jdk_43_method_14_code 3 = .ok (.aload_n 1, 1) := by decide +kernel
theorem d29_4 : decode jdk_43_method_14_code 4 = .ok (.arraylength, 1) := by decide +kernel
theorem d29_5 : decode jdk_43_method_14_code 5 = .ok (.istore_n 3, 1) := by decide +kernel
theorem d29_6 : decode jdk_43_method_14_code 6 = .ok (.aload_n 0, 1) := by decide +kernel
theorem d29_7 : decode jdk_43_method_14_code 7 = .ok (.aload_n 1, 1) := by decide +kernel
theorem d29_8 : decode jdk_43_method_14_code 8 = .ok (.iload_n 2, 1) := by decide +kernel
theorem d29_9 : decode jdk_43_method_14_code 9 = .ok (.iload_n 3, 1) := by decide +kernel
theorem d29_10 : decode jdk_43_method_14_code 10 = .ok (.invokestatic 34, 3) := by decide +kernel
theorem pd_32754635 : parseMethodDescriptor "([B[BII)I" = some ⟨[(.array .byte), (.array .byte), .int, .int], some .int⟩ := by decide +kernel
theorem d29_13 : decode jdk_43_method_14_code 13 = .ok (.ireturn, 1) := by decide +kernel
theorem pn_44073325 : plainFor (⟨"java/lang/StringLatin1", "compareTo", "([B[B)I"⟩ : MethodName) = true := by first | exact plainFor_of_name (by first | (simp [plainName, overriddenIn]; done) | decide +kernel) | decide +kernel
set_option maxRecDepth 65536 in
set_option maxHeartbeats 4000000 in
theorem ct_cm2 (G : Own.Gx) (hw : ∀ d ∈ tables_1, d.before G.a0 G.Z = true) {As : List Own.Ent} {Li : List Own.LitE} (a b : Addr) (xs zs : List Int32) (hx : xs.length ≤ 3) (hz : zs.length ≤ 3) (ha : Own.AVin G As a .byte (xs.map Value.int)) (hb : Own.AVin G As b .byte (zs.map Value.int)) (bx : ∀ x ∈ xs, (x &&& 255).toInt8.toInt32 = x) (bz : ∀ x ∈ zs, (x &&& 255).toInt8.toInt32 = x) :
    Own.Ct G [] (⟨"java/lang/StringLatin1", "compareTo", "([B[B)I"⟩ : MethodName) jdk_43_method_14_code 4 (some .int) ({ frames := 2, cells := 0, slots := 0, locals := 32 } : Room) [.ref a, .ref b] As Li (fun v A L => ∃ r, v = some (.int r) ∧ As = A ∧ Li = L ∧ (r = 0 ↔ xs = zs)) := by
  refine Own.Ct.intro pn_44073325 (Ls := [.val (.ref a), .val (.ref b), .unset, .unset]) rfl rfl ?_
  intro K
  refine Own.W.aloadN (pc := 0) d29_0 rfl rfl ?_
  refine Own.W.alen (pc := 1) d29_1 ha (z := xs.length.toInt32) (by simp) ?_
  refine Own.W.istoreN (pc := 2) (Ls' := [_, _, _, _]) d29_2 rfl rfl ?_
  refine Own.W.aloadN (pc := 3) d29_3 rfl rfl ?_
  refine Own.W.alen (pc := 4) d29_4 hb (z := zs.length.toInt32) (by simp) ?_
  refine Own.W.istoreN (pc := 5) (Ls' := [_, _, _, _]) d29_5 rfl rfl ?_
  refine Own.W.aloadN (pc := 6) d29_6 rfl rfl ?_
  refine Own.W.aloadN (pc := 7) d29_7 rfl rfl ?_
  refine Own.W.iloadN (pc := 8) d29_8 rfl ?_
  refine Own.W.iloadN (pc := 9) d29_9 rfl ?_
  refine Own.W.callS (pc := 10) (ct_cm4 G hw a b xs zs hx hz ha hb bx bz) d29_10 (hw _ (List.mem_of_getElem? (i := 159) rfl)) (hw _ (List.mem_of_getElem? (i := 160) rfl)) (hw _ (List.mem_of_getElem? (i := 45) rfl)) (hw _ (List.mem_of_getElem? (i := 161) rfl)) (by decide) pd_32754635 rfl rfl (Nat.le_of_ble_eq_true rfl) (Nat.le_of_ble_eq_true rfl) (Nat.le_of_ble_eq_true rfl) (Nat.le_of_ble_eq_true rfl) ?_
  rintro _ _ _ ⟨r, rfl, rfl, rfl, hr⟩
  refine Own.W.iret (pc := 13) d29_13 rfl (by simp) rfl ?_ (Nat.le_of_ble_eq_true rfl) (Nat.le_of_ble_eq_true rfl)
  exact ⟨_, rfl, rfl, rfl, hr⟩
theorem d27_0 : decode jdk_42_method_71_code 0 = .ok (.aload_n 0, 1) := by decide +kernel
theorem d27_1 : decode jdk_42_method_71_code 1 = .ok (.getfield 9, 3) := by decide +kernel
theorem d27_4 : decode jdk_42_method_71_code 4 = .ok (.astore_n 2, 1) := by decide +kernel
theorem d27_5 : decode jdk_42_method_71_code 5 = .ok (.aload_n 1, 1) := by decide +kernel
theorem d27_6 : decode jdk_42_method_71_code 6 = .ok (.getfield 9, 3) := by decide +kernel
theorem d27_9 : decode jdk_42_method_71_code 9 = .ok (.astore_n 3, 1) := by decide +kernel
theorem d27_10 : decode jdk_42_method_71_code 10 = .ok (.aload_n 0, 1) := by decide +kernel
theorem d27_11 : decode jdk_42_method_71_code 11 = .ok (.invokevirtual 335, 3) := by decide +kernel
theorem pd_93421976 : parseMethodDescriptor "()B" = some ⟨[], some .byte⟩ := by decide +kernel
theorem d27_14 : decode jdk_42_method_71_code 14 = .ok (.istore 4, 2) := by decide +kernel
theorem d27_16 : decode jdk_42_method_71_code 16 = .ok (.iload 4, 2) := by decide +kernel
theorem d27_18 : decode jdk_42_method_71_code 18 = .ok (.aload_n 1, 1) := by decide +kernel
theorem d27_19 : decode jdk_42_method_71_code 19 = .ok (.invokevirtual 335, 3) := by decide +kernel
theorem d27_22 : decode jdk_42_method_71_code 22 = .ok (.if_icmp .ne 22, 3) := by decide +kernel
theorem d27_25 : decode jdk_42_method_71_code 25 = .ok (.iload 4, 2) := by decide +kernel
theorem d27_27 : decode jdk_42_method_71_code 27 = .ok (.ifCond .ne 11, 3) := by decide +kernel
theorem d27_30 : decode jdk_42_method_71_code 30 = .ok (.aload_n 2, 1) := by decide +kernel
theorem d27_31 : decode jdk_42_method_71_code 31 = .ok (.aload_n 3, 1) := by decide +kernel
theorem d27_32 : decode jdk_42_method_71_code 32 = .ok (.invokestatic 586, 3) := by decide +kernel
theorem pd_24935641 : parseMethodDescriptor "([B[B)I" = some ⟨[(.array .byte), (.array .byte)], some .int⟩ := by decide +kernel
theorem d27_35 : decode jdk_42_method_71_code 35 = .ok (.goto 8, 3) := by decide +kernel
theorem d27_43 : decode jdk_42_method_71_code 43 = .ok (.ireturn, 1) := by decide +kernel
theorem pn_2567434 : plainFor (⟨"java/lang/String", "compareTo", "(Ljava/lang/String;)I"⟩ : MethodName) = true := by first | exact plainFor_of_name (by first | (simp [plainName, overriddenIn]; done) | decide +kernel) | decide +kernel
set_option maxRecDepth 65536 in
set_option maxHeartbeats 4000000 in
theorem ct_cmp_ (G : Own.Gx) (hw : ∀ d ∈ tables_1, d.before G.a0 G.Z = true) (hC : Own.CSt G) {As : List Own.Ent} {Li : List Own.LitE} (xs zs : List Int32) (hx : xs.length ≤ 3) (hz : zs.length ≤ 3) (n n2 : Addr) (sx : Own.StrF As n (xs.map Value.int)) (sz : Own.StrF As n2 (zs.map Value.int)) (bx : ∀ x ∈ xs, (x &&& 255).toInt8.toInt32 = x) (bz : ∀ x ∈ zs, (x &&& 255).toInt8.toInt32 = x) :
    Own.Ct G [] (⟨"java/lang/String", "compareTo", "(Ljava/lang/String;)I"⟩ : MethodName) jdk_42_method_71_code 5 (some .int) ({ frames := 3, cells := 0, slots := 0, locals := 47 } : Room) [.ref n, .ref n2] As Li (fun v A L => ∃ r, v = some (.int r) ∧ As = A ∧ Li = L ∧ (r = 0 ↔ xs = zs)) := by
  refine Own.Ct.intro pn_2567434 (Ls := [.val (.ref n), .val (.ref n2), .unset, .unset, .unset]) rfl rfl ?_
  intro K
  obtain ⟨ab, a1, a2, a3, a4⟩ := (sx.str : Own.StrIn G As n _ 0)
  obtain ⟨bb, b1, b2, b3, b4⟩ := (sz.str : Own.StrIn G As n2 _ 0)
  refine Own.W.aloadN (pc := 0) d27_0 rfl rfl ?_
  refine Own.W.getI (pc := 1) (host := "") (Or.inl (hw _ (List.mem_of_getElem? (i := 32) rfl))) (Via.refl (O := "java/lang/String")) d27_1 a2 ?_
  refine Own.W.astoreN (pc := 4) (Ls' := [_, _, _, _, _]) d27_4 rfl rfl rfl ?_
  refine Own.W.aloadN (pc := 5) d27_5 rfl rfl ?_
  refine Own.W.getI (pc := 6) (host := "") (Or.inl (hw _ (List.mem_of_getElem? (i := 32) rfl))) (Via.refl (O := "java/lang/String")) d27_6 b2 ?_
  refine Own.W.astoreN (pc := 9) (Ls' := [_, _, _, _, _]) d27_9 rfl rfl rfl ?_
  refine Own.W.aloadN (pc := 10) d27_10 rfl rfl ?_
  refine Own.W.callV (pc := 11) (ct_coder G hw hC n _ 0 rfl sx.str) d27_11 (C := "java/lang/String") sx.is (hw _ (List.mem_of_getElem? (i := 151) rfl)) (hw _ (List.mem_of_getElem? (i := 152) rfl)) (Own.nf_sel (hw _ (List.mem_of_getElem? (i := 154) rfl))) (hw _ (List.mem_of_getElem? (i := 154) rfl)) (hw _ (List.mem_of_getElem? (i := 153) rfl)) (hw _ (List.mem_of_getElem? (i := 6) rfl)) (hw _ (List.mem_of_getElem? (i := 155) rfl)) (by decide) pd_93421976 rfl rfl (Nat.le_of_ble_eq_true rfl) (Nat.le_of_ble_eq_true rfl) (Nat.le_of_ble_eq_true rfl) (Nat.le_of_ble_eq_true rfl) ?_
  rintro _ _ _ ⟨rfl, rfl, rfl⟩
  refine Own.W.istore (pc := 14) (Ls' := [_, _, _, _, _]) d27_14 rfl rfl ?_
  refine Own.W.iload (pc := 16) d27_16 rfl ?_
  refine Own.W.aloadN (pc := 18) d27_18 rfl rfl ?_
  refine Own.W.callV (pc := 19) (ct_coder G hw hC n2 _ 0 rfl sz.str) d27_19 (C := "java/lang/String") sz.is (hw _ (List.mem_of_getElem? (i := 151) rfl)) (hw _ (List.mem_of_getElem? (i := 152) rfl)) (Own.nf_sel (hw _ (List.mem_of_getElem? (i := 154) rfl))) (hw _ (List.mem_of_getElem? (i := 154) rfl)) (hw _ (List.mem_of_getElem? (i := 153) rfl)) (hw _ (List.mem_of_getElem? (i := 6) rfl)) (hw _ (List.mem_of_getElem? (i := 155) rfl)) (by decide) pd_93421976 rfl rfl (Nat.le_of_ble_eq_true rfl) (Nat.le_of_ble_eq_true rfl) (Nat.le_of_ble_eq_true rfl) (Nat.le_of_ble_eq_true rfl) ?_
  rintro _ _ _ ⟨rfl, rfl, rfl⟩
  refine Own.W.ic_ne (pc := 22) 44 d27_22 (by decide) (by decide) (fun h22 => absurd h22 (fun q => q rfl)) ?_
  intro h22
  refine Own.W.iload (pc := 25) d27_25 rfl ?_
  refine Own.W.if_ne (pc := 27) 38 d27_27 (by decide) (by decide) (fun h27 => absurd h27 (fun q => q rfl)) ?_
  intro h27
  refine Own.W.aloadN (pc := 30) d27_30 rfl rfl ?_
  refine Own.W.aloadN (pc := 31) d27_31 rfl rfl ?_
  refine Own.W.callS (pc := 32) (ct_cm2 G hw ab bb xs zs hx hz a4 b4 bx bz) d27_32 (hw _ (List.mem_of_getElem? (i := 156) rfl)) (hw _ (List.mem_of_getElem? (i := 157) rfl)) (hw _ (List.mem_of_getElem? (i := 45) rfl)) (hw _ (List.mem_of_getElem? (i := 158) rfl)) (by decide) pd_24935641 rfl rfl (Nat.le_of_ble_eq_true rfl) (Nat.le_of_ble_eq_true rfl) (Nat.le_of_ble_eq_true rfl) (Nat.le_of_ble_eq_true rfl) ?_
  rintro _ _ _ ⟨r, rfl, rfl, rfl, hr⟩
  refine Own.W.goto (pc := 35) 43 d27_35 (by decide) (by decide) ?_
  refine Own.W.iret (pc := 43) d27_43 rfl (by simp) rfl ?_ (Nat.le_of_ble_eq_true rfl) (Nat.le_of_ble_eq_true rfl)
  exact ⟨_, rfl, rfl, rfl, hr⟩
theorem d26_0 : decode jdk_2055_method_14_code 0 = .ok (.iload_n 0, 1) := by decide +kernel
theorem d26_1 : decode jdk_2055_method_14_code 1 = .ok (.iload_n 1, 1) := by decide +kernel
theorem d26_2 : decode jdk_2055_method_14_code 2 = .ok (.if_icmp .ne 7, 3) := by decide +kernel
theorem d26_5 : decode jdk_2055_method_14_code 5 = .ok (.iconst 0, 1) := by decide +kernel
theorem d26_6 : decode jdk_2055_method_14_code 6 = .ok (.goto 12, 3) := by decide +kernel
theorem d26_18 : decode jdk_2055_method_14_code 18 = .ok (.ireturn, 1) := by decide +kernel
theorem pn_71231108 : plainFor (⟨"java/lang/Boolean", "compare", "(ZZ)I"⟩ : MethodName) = true := by first | exact plainFor_of_name (by first | (simp [plainName, overriddenIn]; done) | decide +kernel) | decide +kernel
set_option maxRecDepth 65536 in
set_option maxHeartbeats 4000000 in
theorem ct_bcm (G : Own.Gx) (hw : ∀ d ∈ tables_1, d.before G.a0 G.Z = true) {As : List Own.Ent} {Li : List Own.LitE} (x : Int32) :
    Own.Ct G [] (⟨"java/lang/Boolean", "compare", "(ZZ)I"⟩ : MethodName) jdk_2055_method_14_code 2 (some .int) ({ frames := 0, cells := 0, slots := 0, locals := 0 } : Room) [.int x, .int x] As Li (fun v A L => v = some (.int 0) ∧ As = A ∧ Li = L) := by
  refine Own.Ct.intro pn_71231108 (Ls := [.val (.int x), .val (.int x)]) rfl rfl ?_
  intro K
  refine Own.W.iloadN (pc := 0) d26_0 rfl ?_
  refine Own.W.iloadN (pc := 1) d26_1 rfl ?_
  refine Own.W.ic_ne (pc := 2) 9 d26_2 (by decide) (by decide) (fun h2 => absurd h2 (fun q => q rfl)) ?_
  intro h2
  refine Own.W.iconst (pc := 5) (z := (0 : Int32)) d26_5 (by decide) ?_
  refine Own.W.goto (pc := 6) 18 d26_6 (by decide) (by decide) ?_
  refine Own.W.iret (pc := 18) d26_18 rfl (by simp) rfl ?_ (Nat.le_of_ble_eq_true rfl) (Nat.le_of_ble_eq_true rfl)
  exact ⟨rfl, rfl, rfl⟩
theorem d24_0 : decode prog_21_method_9_code 0 = .ok (.aload_n 0, 1) := by decide +kernel
theorem d24_1 : decode prog_21_method_9_code 1 = .ok (.getfield 17, 3) := by decide +kernel
theorem d24_4 : decode prog_21_method_9_code 4 = .ok (.invokevirtual 81, 3) := by decide +kernel
theorem d24_7 : decode prog_21_method_9_code 7 = .ok (.ifCond .eq 39, 3) := by decide +kernel
theorem d24_46 : decode prog_21_method_9_code 46 = .ok (.aload_n 0, 1) := by decide +kernel
theorem d24_47 : decode prog_21_method_9_code 47 = .ok (.getfield 17, 3) := by decide +kernel
theorem d24_50 : decode prog_21_method_9_code 50 = .ok (.invokevirtual 59, 3) := by decide +kernel
theorem d24_53 : decode prog_21_method_9_code 53 = .ok (.aload_n 1, 1) := by decide +kernel
theorem d24_54 : decode prog_21_method_9_code 54 = .ok (.getfield 17, 3) := by decide +kernel
theorem d24_57 : decode prog_21_method_9_code 57 = .ok (.invokevirtual 59, 3) := by decide +kernel
theorem d24_60 : decode prog_21_method_9_code 60 = .ok (.invokestatic 92, 3) := by decide +kernel
theorem pd_84922835 : parseMethodDescriptor "(ZZ)I" = some ⟨[.boolean, .boolean], some .int⟩ := by decide +kernel
theorem d24_63 : decode prog_21_method_9_code 63 = .ok (.istore_n 2, 1) := by decide +kernel
theorem d24_64 : decode prog_21_method_9_code 64 = .ok (.iload_n 2, 1) := by decide +kernel
theorem d24_65 : decode prog_21_method_9_code 65 = .ok (.ifCond .eq 7, 3) := by decide +kernel
theorem d24_72 : decode prog_21_method_9_code 72 = .ok (.aload_n 0, 1) := by decide +kernel
theorem d24_73 : decode prog_21_method_9_code 73 = .ok (.getfield 22, 3) := by decide +kernel
theorem d24_76 : decode prog_21_method_9_code 76 = .ok (.aload_n 1, 1) := by decide +kernel
theorem d24_77 : decode prog_21_method_9_code 77 = .ok (.getfield 22, 3) := by decide +kernel
theorem d24_80 : decode prog_21_method_9_code 80 = .ok (.invokevirtual 98, 3) := by decide +kernel
theorem pd_62450847 : parseMethodDescriptor "(Ljava/lang/String;)I" = some ⟨[(.object "java/lang/String")], some .int⟩ := by decide +kernel
theorem d24_83 : decode prog_21_method_9_code 83 = .ok (.ireturn, 1) := by decide +kernel
theorem pn_16732426 : plainFor (⟨"com/example/stairwell/stairwell/core/Step", "compareTo", "(Lcom/example/stairwell/stairwell/core/Step;)I"⟩ : MethodName) = true := by first | exact plainFor_of_name (by first | (simp [plainName, overriddenIn]; done) | decide +kernel) | decide +kernel
set_option maxRecDepth 65536 in
set_option maxHeartbeats 4000000 in
theorem ct_scm (G : Own.Gx) (hw : ∀ d ∈ tables_1, d.before G.a0 G.Z = true) (hC : Own.CSt G) (em : Addr) (hO : OptE G em) {As : List Own.Ent} {Li : List Own.LitE} (xs zs : List Int32) (hx : xs.length ≤ 3) (hz : zs.length ≤ 3) (n n2 : Addr) (sx : Own.StrF As n (xs.map Value.int)) (sz : Own.StrF As n2 (zs.map Value.int)) (bx : ∀ x ∈ xs, (x &&& 255).toInt8.toInt32 = x) (bz : ∀ x ∈ zs, (x &&& 255).toInt8.toInt32 = x) {w w2 : Bool} (p p2 : Addr) (hm : (p, w, Own.obj "com/example/stairwell/stairwell/core/Step" F_com_example_stairwell_stairwell_core_Step [.ref em, .ref n]) ∈ As) (hm2 : (p2, w2, Own.obj "com/example/stairwell/stairwell/core/Step" F_com_example_stairwell_stairwell_core_Step [.ref em, .ref n2]) ∈ As) :
    Own.Ct G [] (⟨"com/example/stairwell/stairwell/core/Step", "compareTo", "(Lcom/example/stairwell/stairwell/core/Step;)I"⟩ : MethodName) prog_21_method_9_code 3 (some .int) ({ frames := 4, cells := 0, slots := 0, locals := 63 } : Room) [.ref p, .ref p2] As Li (fun v A L => ∃ r, v = some (.int r) ∧ As = A ∧ Li = L ∧ (r = 0 ↔ xs = zs)) := by
  refine Own.Ct.intro pn_16732426 (Ls := [.val (.ref p), .val (.ref p2), .unset]) rfl rfl ?_
  intro K
  refine Own.W.aloadN (pc := 0) d24_0 rfl rfl ?_
  refine Own.W.getF (pc := 1) (host := "") (Or.inl (hw _ (List.mem_of_getElem? (i := 73) rfl))) (Via.refl (O := "com/example/stairwell/stairwell/core/Step")) d24_1 hm (by repeat (first | exact Own.FAt.head | apply Own.FAt.tail)) ?_
  refine Own.W.callV (pc := 4) (ct_oip G hw em hO) d24_4 (C := "java/util/Optional") (Own.Is.old hO.2.1) (hw _ (List.mem_of_getElem? (i := 137) rfl)) (hw _ (List.mem_of_getElem? (i := 138) rfl)) (Own.nf_sel (hw _ (List.mem_of_getElem? (i := 140) rfl))) (hw _ (List.mem_of_getElem? (i := 140) rfl)) (hw _ (List.mem_of_getElem? (i := 139) rfl)) (hw _ (List.mem_of_getElem? (i := 55) rfl)) (hw _ (List.mem_of_getElem? (i := 141) rfl)) (by decide) pd_93422000 rfl rfl (Nat.le_of_ble_eq_true rfl) (Nat.le_of_ble_eq_true rfl) (Nat.le_of_ble_eq_true rfl) (Nat.le_of_ble_eq_true rfl) ?_
  rintro _ _ _ ⟨rfl, rfl, rfl⟩
  refine Own.W.if_eq (pc := 7) 46 d24_7 (by decide) (by decide) ?_ (fun h7 => absurd h7 (fun q => q rfl))
  intro h7
  refine Own.W.aloadN (pc := 46) d24_46 rfl rfl ?_
  refine Own.W.getF (pc := 47) (host := "") (Or.inl (hw _ (List.mem_of_getElem? (i := 73) rfl))) (Via.refl (O := "com/example/stairwell/stairwell/core/Step")) d24_47 hm (by repeat (first | exact Own.FAt.head | apply Own.FAt.tail)) ?_
  refine Own.W.callV (pc := 50) (ct_oie G hw em hO) d24_50 (C := "java/util/Optional") (Own.Is.old hO.2.1) (hw _ (List.mem_of_getElem? (i := 82) rfl)) (hw _ (List.mem_of_getElem? (i := 83) rfl)) (Own.nf_sel (hw _ (List.mem_of_getElem? (i := 85) rfl))) (hw _ (List.mem_of_getElem? (i := 85) rfl)) (hw _ (List.mem_of_getElem? (i := 84) rfl)) (hw _ (List.mem_of_getElem? (i := 55) rfl)) (hw _ (List.mem_of_getElem? (i := 86) rfl)) (by decide) pd_93422000 rfl rfl (Nat.le_of_ble_eq_true rfl) (Nat.le_of_ble_eq_true rfl) (Nat.le_of_ble_eq_true rfl) (Nat.le_of_ble_eq_true rfl) ?_
  rintro _ _ _ ⟨rfl, rfl, rfl⟩
  refine Own.W.aloadN (pc := 53) d24_53 rfl rfl ?_
  refine Own.W.getF (pc := 54) (host := "") (Or.inl (hw _ (List.mem_of_getElem? (i := 73) rfl))) (Via.refl (O := "com/example/stairwell/stairwell/core/Step")) d24_54 hm2 (by repeat (first | exact Own.FAt.head | apply Own.FAt.tail)) ?_
  refine Own.W.callV (pc := 57) (ct_oie G hw em hO) d24_57 (C := "java/util/Optional") (Own.Is.old hO.2.1) (hw _ (List.mem_of_getElem? (i := 82) rfl)) (hw _ (List.mem_of_getElem? (i := 83) rfl)) (Own.nf_sel (hw _ (List.mem_of_getElem? (i := 85) rfl))) (hw _ (List.mem_of_getElem? (i := 85) rfl)) (hw _ (List.mem_of_getElem? (i := 84) rfl)) (hw _ (List.mem_of_getElem? (i := 55) rfl)) (hw _ (List.mem_of_getElem? (i := 86) rfl)) (by decide) pd_93422000 rfl rfl (Nat.le_of_ble_eq_true rfl) (Nat.le_of_ble_eq_true rfl) (Nat.le_of_ble_eq_true rfl) (Nat.le_of_ble_eq_true rfl) ?_
  rintro _ _ _ ⟨rfl, rfl, rfl⟩
  refine Own.W.callS (pc := 60) (ct_bcm G hw 1) d24_60 (hw _ (List.mem_of_getElem? (i := 142) rfl)) (hw _ (List.mem_of_getElem? (i := 143) rfl)) (hw _ (List.mem_of_getElem? (i := 144) rfl)) (hw _ (List.mem_of_getElem? (i := 145) rfl)) (by decide) pd_84922835 rfl rfl (Nat.le_of_ble_eq_true rfl) (Nat.le_of_ble_eq_true rfl) (Nat.le_of_ble_eq_true rfl) (Nat.le_of_ble_eq_true rfl) ?_
  rintro _ _ _ ⟨rfl, rfl, rfl⟩
  refine Own.W.istoreN (pc := 63) (Ls' := [_, _, _]) d24_63 rfl rfl ?_
  refine Own.W.iloadN (pc := 64) d24_64 rfl ?_
  refine Own.W.if_eq (pc := 65) 72 d24_65 (by decide) (by decide) ?_ (fun h65 => absurd h65 (fun q => q rfl))
  intro h65
  refine Own.W.aloadN (pc := 72) d24_72 rfl rfl ?_
  refine Own.W.getF (pc := 73) (host := "") (Or.inl (hw _ (List.mem_of_getElem? (i := 75) rfl))) (Via.refl (O := "com/example/stairwell/stairwell/core/Step")) d24_73 hm (by repeat (first | exact Own.FAt.head | apply Own.FAt.tail)) ?_
  refine Own.W.aloadN (pc := 76) d24_76 rfl rfl ?_
  refine Own.W.getF (pc := 77) (host := "") (Or.inl (hw _ (List.mem_of_getElem? (i := 75) rfl))) (Via.refl (O := "com/example/stairwell/stairwell/core/Step")) d24_77 hm2 (by repeat (first | exact Own.FAt.head | apply Own.FAt.tail)) ?_
  refine Own.W.callV (pc := 80) (ct_cmp_ G hw hC xs zs hx hz n n2 sx sz bx bz) d24_80 (C := "java/lang/String") sx.is (hw _ (List.mem_of_getElem? (i := 146) rfl)) (hw _ (List.mem_of_getElem? (i := 147) rfl)) (Own.nf_sel (hw _ (List.mem_of_getElem? (i := 149) rfl))) (hw _ (List.mem_of_getElem? (i := 149) rfl)) (hw _ (List.mem_of_getElem? (i := 148) rfl)) (hw _ (List.mem_of_getElem? (i := 6) rfl)) (hw _ (List.mem_of_getElem? (i := 150) rfl)) (by decide) pd_62450847 rfl rfl (Nat.le_of_ble_eq_true rfl) (Nat.le_of_ble_eq_true rfl) (Nat.le_of_ble_eq_true rfl) (Nat.le_of_ble_eq_true rfl) ?_
  rintro _ _ _ ⟨r, rfl, rfl, rfl, hr⟩
  refine Own.W.iret (pc := 83) d24_83 rfl (by simp) rfl ?_ (Nat.le_of_ble_eq_true rfl) (Nat.le_of_ble_eq_true rfl)
  exact ⟨_, rfl, rfl, rfl, hr⟩
theorem own_mk_r (p n : Int32) : ∀ x ∈ own_by (own_mk p n), (x &&& 255).toInt8.toInt32 = x := fun x hx => by
  obtain ⟨z, hz, rfl⟩ := List.mem_map.mp hx
  rw [own_back (own_mk_b p n z hz)]
def Q1 : Own.Qx := fun v _ _ => v = some (.int 1)
theorem own_R1 : (Own.txb "R").length = 1 := by decide +kernel
theorem own_sl (As : List Own.Ent) (a b : Addr) (t : String) : Own.Sub As ((a, false, Own.obj "java/lang/String" Own.litF [.ref b, .int 0]) :: (b, false, Own.arr .byte ((Own.txb t).map Value.int)) :: As) := Own.Sub.cons (Own.Sub.cons (Own.Sub.refl _))
theorem own_ls {As : List Own.Ent} {x : Addr} {vs : List Value} (_ : Own.StrF As x vs) (a b : Addr) (t : String) : Own.StrF ((a, false, Own.obj "java/lang/String" Own.litF [.ref b, .int 0]) :: (b, false, Own.arr .byte ((Own.txb t).map Value.int)) :: As) a ((Own.txb t).map Value.int) := Own.StrF.lit (List.Mem.head _) (List.Mem.tail _ (List.Mem.head _))
theorem pd_80002696 : parseMethodDescriptor "(II)Ljava/lang/String;" = some ⟨[.int, .int], some (.object "java/lang/String")⟩ := by decide +kernel
theorem pd_47824390 : parseMethodDescriptor "(Ljava/lang/String;)Lcom/example/stairwell/stairwell/core/Step;" = some ⟨[(.object "java/lang/String")], some (.object "com/example/stairwell/stairwell/core/Step")⟩ := by decide +kernel
theorem pd_47462102 : parseMethodDescriptor "()Ljava/lang/String;" = some ⟨[], some (.object "java/lang/String")⟩ := by decide +kernel
theorem pd_10375599 : parseMethodDescriptor "(Lcom/example/stairwell/stairwell/core/Step;)I" = some ⟨[(.object "com/example/stairwell/stairwell/core/Step")], some .int⟩ := by decide +kernel
theorem pn_58332768 : plainFor x = true := by first | exact plainFor_of_name (by first | (simp [plainName, overriddenIn]; done) | decide +kernel) | decide +kernel
set_option maxRecDepth 65536 in
set_option maxHeartbeats 4000000 in
theorem ct_law (G : Own.Gx) (hw : ∀ d ∈ tables_1, d.before G.a0 G.Z = true) (ws : List Jvm.Cond) (hC : Own.CSt G) (hnw : G.nw = false) (wS : ∀ a ∈ Bundle.stringAtoms, a.before G.a0 G.Z = true) (hcw : Jvm.Lit.compactW.before G.a0 G.Z = true) (hhs7 : Jvm.Lit.constHeld G.Z "java/lang/String" 7) (hhl36 : Jvm.Lit.constHeld G.Z "com/example/stairwell/stairwell/core/StepRepeatablePinLaw" 36) (hht7 : Jvm.Lit.constHeld G.Z "com/example/stairwell/stairwell/core/Step" 7) (hht15 : Jvm.Lit.constHeld G.Z "com/example/stairwell/stairwell/core/Step" 15) (hht40 : Jvm.Lit.constHeld G.Z "com/example/stairwell/stairwell/core/Step" 40) (em : Addr) (hO : OptE G em) (p0 p1 p2 : Int32) :
    Own.Ct G ws x code maxLocals ret room_1 [.int p0, .int p1, .int p2] [] [] (Q1) := by
  refine Own.Ct.intro pn_58332768 (Ls := [.val (.int p0), .val (.int p1), .val (.int p2), .unset, .unset, .unset, .unset, .unset]) (Own.args_ls rfl) rfl ?_
  intro K
  refine Own.W.iloadN (pc := 0) at_0 rfl ?_
  refine Own.W.iloadN (pc := 1) at_1 rfl ?_
  refine Own.W.iconst (pc := 2) (z := (3 : Int32)) at_2 (by decide) ?_
  refine Own.W.iand (pc := 3) at_3 rfl ?_
  refine Own.W.callS (pc := 4) (ct_mk G hw hC hnw wS hcw hhs7 p0 (p2 &&& 3) (Own.LA.nil [])) at_4 (hw _ (List.mem_of_getElem? (i := 0) rfl)) (hw _ (List.mem_of_getElem? (i := 1) rfl)) (hw _ (List.mem_of_getElem? (i := 2) rfl)) (hw _ (List.mem_of_getElem? (i := 3) rfl)) (by decide) pd_80002696 rfl rfl (Nat.le_of_ble_eq_true rfl) (Nat.le_of_ble_eq_true rfl) (Nat.le_of_ble_eq_true rfl) (Nat.le_of_ble_eq_true rfl) ?_
  rintro _ A1 L1 ⟨n, rfl, sx, q1, hA1⟩
  refine Own.W.astoreN (pc := 7) (Ls' := [_, _, _, _, _, _, _, _]) at_7 rfl rfl rfl ?_
  suffices J33 : ∀ (A : List Own.Ent) (L : List Own.LitE) (n2 : Addr) (zs : List Int32), zs.length ≤ 3 → (∀ x ∈ zs, (x &&& 255).toInt8.toInt32 = x) → Own.StrF A n ((own_by (own_mk p0 (p2 &&& 3))).map Value.int) → Own.StrF A n2 (zs.map Value.int) → Own.LA A L → Own.W G K x code ret room_1 (Q1) A L 8 24 33 [.val (.int p0), .val (.int p1), .val (.int p2), .val (.ref n), .unset, .unset, .unset, .unset] [.ref n2] by
    refine Own.W.iloadN (pc := 8) at_8 rfl ?_
    refine Own.W.iconst (pc := 9) (z := (4 : Int32)) at_9 (by decide) ?_
    refine Own.W.iand (pc := 10) at_10 rfl ?_
    refine Own.W.if_eq (pc := 11) 24 at_11 (by decide) (by decide) ?_ ?_
    · intro h11
      refine Own.W.iloadN (pc := 24) at_24 rfl ?_
      refine Own.W.iloadN (pc := 25) at_25 rfl ?_
      refine Own.W.iconst (pc := 26) (z := (3 : Int32)) at_26 (by decide) ?_
      refine Own.W.iushr (pc := 27) at_27 rfl ?_
      refine Own.W.iconst (pc := 28) (z := (3 : Int32)) at_28 (by decide) ?_
      refine Own.W.iand (pc := 29) at_29 rfl ?_
      refine Own.W.callS (pc := 30) (ct_mk G hw hC hnw wS hcw hhs7 p1 _ hA1) at_30 (hw _ (List.mem_of_getElem? (i := 0) rfl)) (hw _ (List.mem_of_getElem? (i := 1) rfl)) (hw _ (List.mem_of_getElem? (i := 2) rfl)) (hw _ (List.mem_of_getElem? (i := 3) rfl)) (by decide) pd_80002696 rfl rfl (Nat.le_of_ble_eq_true rfl) (Nat.le_of_ble_eq_true rfl) (Nat.le_of_ble_eq_true rfl) (Nat.le_of_ble_eq_true rfl) ?_
      rintro _ A2 L2 ⟨n2, rfl, sz, q2, hA2⟩
      first | exact J33 _ _ _ _ (by simpa using own_mk_len (p0) (p2 &&& 3)) (own_mk_r (p0) (p2 &&& 3)) (sx.sub q2) sz hA2 | exact J33 _ _ _ _ (by simpa using own_mk_len p1 _) (own_mk_r p1 _) (sx.sub q2) sz hA2
    · intro h11
      refine Own.W.iloadN (pc := 14) at_14 rfl ?_
      refine Own.W.iloadN (pc := 15) at_15 rfl ?_
      refine Own.W.iconst (pc := 16) (z := (3 : Int32)) at_16 (by decide) ?_
      refine Own.W.iand (pc := 17) at_17 rfl ?_
      refine Own.W.callS (pc := 18) (ct_mk G hw hC hnw wS hcw hhs7 p0 (p2 &&& 3) hA1) at_18 (hw _ (List.mem_of_getElem? (i := 0) rfl)) (hw _ (List.mem_of_getElem? (i := 1) rfl)) (hw _ (List.mem_of_getElem? (i := 2) rfl)) (hw _ (List.mem_of_getElem? (i := 3) rfl)) (by decide) pd_80002696 rfl rfl (Nat.le_of_ble_eq_true rfl) (Nat.le_of_ble_eq_true rfl) (Nat.le_of_ble_eq_true rfl) (Nat.le_of_ble_eq_true rfl) ?_
      rintro _ A2 L2 ⟨n2, rfl, sz, q2, hA2⟩
      refine Own.W.goto (pc := 21) 33 at_21 (by decide) (by decide) ?_
      first | exact J33 _ _ _ _ (by simpa using own_mk_len (p0) (p2 &&& 3)) (own_mk_r (p0) (p2 &&& 3)) (sx.sub q2) sz hA2 | exact J33 _ _ _ _ (by simpa using own_mk_len p1 _) (own_mk_r p1 _) (sx.sub q2) sz hA2
  intro A L n2 zs hz bz sx sz hA
  have hx : (own_by (own_mk p0 (p2 &&& 3))).length ≤ 3 := by simpa using own_mk_len p0 (p2 &&& 3)
  have bx := own_mk_r p0 (p2 &&& 3)
  generalize own_by (own_mk p0 (p2 &&& 3)) = xs at sx hx bx
  refine Own.W.astore (pc := 33) (Ls' := [_, _, _, _, _, _, _, _]) at_33 rfl rfl rfl ?_
  refine Own.W.aloadN (pc := 35) at_35 rfl rfl ?_
  refine Own.W.aload (pc := 36) at_36 rfl rfl ?_
  refine Own.W.callV (pc := 38) (ct_seq G hw hC n n2 xs zs (by omega) (by omega) sx.str sz.str) at_38 (C := "java/lang/String") sx.is (hw _ (List.mem_of_getElem? (i := 37) rfl)) (hw _ (List.mem_of_getElem? (i := 38) rfl)) (Own.nf_sel (hw _ (List.mem_of_getElem? (i := 40) rfl))) (hw _ (List.mem_of_getElem? (i := 40) rfl)) (hw _ (List.mem_of_getElem? (i := 39) rfl)) (hw _ (List.mem_of_getElem? (i := 6) rfl)) (hw _ (List.mem_of_getElem? (i := 41) rfl)) (by decide) pd_96412080 rfl rfl (Nat.le_of_ble_eq_true rfl) (Nat.le_of_ble_eq_true rfl) (Nat.le_of_ble_eq_true rfl) (Nat.le_of_ble_eq_true rfl) ?_
  rintro _ _ _ ⟨rfl, rfl, rfl⟩
  refine Own.W.istore (pc := 41) (Ls' := [_, _, _, _, _, _, _, _]) at_41 rfl rfl ?_
  refine Own.W.aloadN (pc := 43) at_43 rfl rfl ?_
  refine Own.W.callS (pc := 44) (ct_rep G hw hnw wS hcw hht7 hht15 em hO n hA) at_44 (hw _ (List.mem_of_getElem? (i := 47) rfl)) (hw _ (List.mem_of_getElem? (i := 48) rfl)) (hw _ (List.mem_of_getElem? (i := 49) rfl)) (hw _ (List.mem_of_getElem? (i := 50) rfl)) (by decide) pd_47824390 rfl rfl (Nat.le_of_ble_eq_true rfl) (Nat.le_of_ble_eq_true rfl) (Nat.le_of_ble_eq_true rfl) (Nat.le_of_ble_eq_true rfl) ?_
  rintro _ A3 L3 ⟨p, rfl, hp, q3, hA3⟩
  replace sx := sx.sub q3
  replace sz := sz.sub q3
  refine Own.W.astore (pc := 47) (Ls' := [_, _, _, _, _, _, _, _]) at_47 rfl rfl rfl ?_
  refine Own.W.aload (pc := 49) at_49 rfl rfl ?_
  refine Own.W.callS (pc := 51) (ct_rep G hw hnw wS hcw hht7 hht15 em hO n2 hA3) at_51 (hw _ (List.mem_of_getElem? (i := 47) rfl)) (hw _ (List.mem_of_getElem? (i := 48) rfl)) (hw _ (List.mem_of_getElem? (i := 49) rfl)) (hw _ (List.mem_of_getElem? (i := 50) rfl)) (by decide) pd_47824390 rfl rfl (Nat.le_of_ble_eq_true rfl) (Nat.le_of_ble_eq_true rfl) (Nat.le_of_ble_eq_true rfl) (Nat.le_of_ble_eq_true rfl) ?_
  rintro _ A4 L4 ⟨p', rfl, hp2, q4, hA4⟩
  replace sx := sx.sub q4
  replace sz := sz.sub q4
  replace hp := q4 _ hp
  refine Own.W.astore (pc := 54) (Ls' := [_, _, _, _, _, _, _, _]) at_54 rfl rfl rfl ?_
  refine Own.W.aload (pc := 56) at_56 rfl rfl ?_
  refine Own.W.callV (pc := 58) (ct_isr G hw em hO p n hp) at_58 (C := "com/example/stairwell/stairwell/core/Step") (Own.Is.mem hp) (hw _ (List.mem_of_getElem? (i := 77) rfl)) (hw _ (List.mem_of_getElem? (i := 78) rfl)) (Own.nf_sel (hw _ (List.mem_of_getElem? (i := 80) rfl))) (hw _ (List.mem_of_getElem? (i := 80) rfl)) (hw _ (List.mem_of_getElem? (i := 79) rfl)) (hw _ (List.mem_of_getElem? (i := 49) rfl)) (hw _ (List.mem_of_getElem? (i := 81) rfl)) (by decide) pd_93422000 rfl rfl (Nat.le_of_ble_eq_true rfl) (Nat.le_of_ble_eq_true rfl) (Nat.le_of_ble_eq_true rfl) (Nat.le_of_ble_eq_true rfl) ?_
  rintro _ _ _ ⟨rfl, rfl, rfl⟩
  refine Own.W.if_ne (pc := 61) 66 at_61 (by decide) (by decide) ?_ (fun h61 => absurd h61 (by decide))
  intro h61
  refine Own.W.aload (pc := 66) at_66 rfl rfl ?_
  refine Own.W.callV (pc := 68) (ct_nam G hw em p n hp) at_68 (C := "com/example/stairwell/stairwell/core/Step") (Own.Is.mem hp) (hw _ (List.mem_of_getElem? (i := 89) rfl)) (hw _ (List.mem_of_getElem? (i := 90) rfl)) (Own.nf_sel (hw _ (List.mem_of_getElem? (i := 92) rfl))) (hw _ (List.mem_of_getElem? (i := 92) rfl)) (hw _ (List.mem_of_getElem? (i := 91) rfl)) (hw _ (List.mem_of_getElem? (i := 49) rfl)) (hw _ (List.mem_of_getElem? (i := 93) rfl)) (by decide) pd_47462102 rfl rfl (Nat.le_of_ble_eq_true rfl) (Nat.le_of_ble_eq_true rfl) (Nat.le_of_ble_eq_true rfl) (Nat.le_of_ble_eq_true rfl) ?_
  rintro _ _ _ ⟨rfl, rfl, rfl⟩
  refine Own.W.aloadN (pc := 71) at_71 rfl rfl ?_
  refine Own.W.callV (pc := 72) (ct_seq G hw hC n n xs xs (by omega) (by omega) sx.str sx.str) at_72 (C := "java/lang/String") sx.is (hw _ (List.mem_of_getElem? (i := 37) rfl)) (hw _ (List.mem_of_getElem? (i := 38) rfl)) (Own.nf_sel (hw _ (List.mem_of_getElem? (i := 40) rfl))) (hw _ (List.mem_of_getElem? (i := 40) rfl)) (hw _ (List.mem_of_getElem? (i := 39) rfl)) (hw _ (List.mem_of_getElem? (i := 6) rfl)) (hw _ (List.mem_of_getElem? (i := 41) rfl)) (by decide) pd_96412080 rfl rfl (Nat.le_of_ble_eq_true rfl) (Nat.le_of_ble_eq_true rfl) (Nat.le_of_ble_eq_true rfl) (Nat.le_of_ble_eq_true rfl) ?_
  rintro _ _ _ ⟨rfl, rfl, rfl⟩
  rw [Own.eqI_self xs]
  refine Own.W.if_ne (pc := 75) 80 at_75 (by decide) (by decide) ?_ (fun h75 => absurd h75 (by decide))
  intro h75
  refine Own.W.ldcG (pc := 80) (n := 4) (vs := (Own.txb "R").map Value.int) hnw at_80 (hw _ (List.mem_of_getElem? (i := 94) rfl)) wS hhl36 hcw (hA4.g _) ⟨by decide +kernel, Own.txb_map _⟩ (by decide +kernel) (by decide) (Nat.le_of_ble_eq_true rfl) (Nat.le_of_ble_eq_true rfl) ?_
  intro a80 b80
  have q5 := own_sl A4 a80 b80 "R"
  have sR := own_ls sx a80 b80 "R"
  have hA5 := hA4.lit (a := a80) (b := b80) (own := "com/example/stairwell/stairwell/core/StepRepeatablePinLaw") (idx := 36) (text := "R")
  replace sx := sx.sub q5
  replace sz := sz.sub q5
  replace hp := q5 _ hp
  replace hp2 := q5 _ hp2
  refine Own.W.aload (pc := 82) at_82 rfl rfl ?_
  refine Own.W.callV (pc := 84) (ct_wrv G hw hnw wS hcw hht40 em hO p n hp hA5) at_84 (C := "com/example/stairwell/stairwell/core/Step") (Own.Is.mem hp) (hw _ (List.mem_of_getElem? (i := 95) rfl)) (hw _ (List.mem_of_getElem? (i := 96) rfl)) (Own.nf_sel (hw _ (List.mem_of_getElem? (i := 98) rfl))) (hw _ (List.mem_of_getElem? (i := 98) rfl)) (hw _ (List.mem_of_getElem? (i := 97) rfl)) (hw _ (List.mem_of_getElem? (i := 49) rfl)) (hw _ (List.mem_of_getElem? (i := 99) rfl)) (by decide) pd_47462102 rfl rfl (Nat.le_of_ble_eq_true rfl) (Nat.le_of_ble_eq_true rfl) (Nat.le_of_ble_eq_true rfl) (Nat.le_of_ble_eq_true rfl) ?_
  rintro _ A6 L6 ⟨r, rfl, sr, q6, hA6⟩
  replace sx := sx.sub q6
  replace sz := sz.sub q6
  replace hp := q6 _ hp
  replace hp2 := q6 _ hp2
  replace sR := sR.sub q6
  refine Own.W.callV (pc := 87) (ct_seq G hw hC a80 r (Own.txb "R") (Own.txb "R") (by rw [own_R1]; decide) (by rw [own_R1]; decide) sR.str sr.str) at_87 (C := "java/lang/String") sR.is (hw _ (List.mem_of_getElem? (i := 37) rfl)) (hw _ (List.mem_of_getElem? (i := 38) rfl)) (Own.nf_sel (hw _ (List.mem_of_getElem? (i := 40) rfl))) (hw _ (List.mem_of_getElem? (i := 40) rfl)) (hw _ (List.mem_of_getElem? (i := 39) rfl)) (hw _ (List.mem_of_getElem? (i := 6) rfl)) (hw _ (List.mem_of_getElem? (i := 41) rfl)) (by decide) pd_96412080 rfl rfl (Nat.le_of_ble_eq_true rfl) (Nat.le_of_ble_eq_true rfl) (Nat.le_of_ble_eq_true rfl) (Nat.le_of_ble_eq_true rfl) ?_
  rintro _ _ _ ⟨rfl, rfl, rfl⟩
  rw [Own.eqI_self (Own.txb "R")]
  refine Own.W.if_ne (pc := 90) 95 at_90 (by decide) (by decide) ?_ (fun h90 => absurd h90 (by decide))
  intro h90
  refine Own.W.aload (pc := 95) at_95 rfl rfl ?_
  refine Own.W.aload (pc := 97) at_97 rfl rfl ?_
  refine Own.W.callV (pc := 99) (ct_steq G hw hC em hO xs zs hx hz n n2 sx sz p p' hp hp2) at_99 (C := "com/example/stairwell/stairwell/core/Step") (Own.Is.mem hp) (hw _ (List.mem_of_getElem? (i := 120) rfl)) (hw _ (List.mem_of_getElem? (i := 121) rfl)) (Own.nf_sel (hw _ (List.mem_of_getElem? (i := 123) rfl))) (hw _ (List.mem_of_getElem? (i := 123) rfl)) (hw _ (List.mem_of_getElem? (i := 122) rfl)) (hw _ (List.mem_of_getElem? (i := 49) rfl)) (hw _ (List.mem_of_getElem? (i := 124) rfl)) (by decide) pd_96412080 rfl rfl (Nat.le_of_ble_eq_true rfl) (Nat.le_of_ble_eq_true rfl) (Nat.le_of_ble_eq_true rfl) (Nat.le_of_ble_eq_true rfl) ?_
  rintro _ _ _ ⟨rfl, rfl, rfl⟩
  refine Own.W.iload (pc := 102) at_102 rfl ?_
  refine Own.W.ic_eq (pc := 104) 109 at_104 (by decide) (by decide) ?_ (fun h104 => absurd h104 (fun q => q rfl))
  intro h104
  refine Own.W.aload (pc := 109) at_109 rfl rfl ?_
  refine Own.W.aload (pc := 111) at_111 rfl rfl ?_
  refine Own.W.callV (pc := 113) (ct_scm G hw hC em hO xs zs hx hz n n2 sx sz bx bz p p' hp hp2) at_113 (C := "com/example/stairwell/stairwell/core/Step") (Own.Is.mem hp) (hw _ (List.mem_of_getElem? (i := 132) rfl)) (hw _ (List.mem_of_getElem? (i := 133) rfl)) (Own.nf_sel (hw _ (List.mem_of_getElem? (i := 135) rfl))) (hw _ (List.mem_of_getElem? (i := 135) rfl)) (hw _ (List.mem_of_getElem? (i := 134) rfl)) (hw _ (List.mem_of_getElem? (i := 49) rfl)) (hw _ (List.mem_of_getElem? (i := 136) rfl)) (by decide) pd_10375599 rfl rfl (Nat.le_of_ble_eq_true rfl) (Nat.le_of_ble_eq_true rfl) (Nat.le_of_ble_eq_true rfl) (Nat.le_of_ble_eq_true rfl) ?_
  rintro _ _ _ ⟨rr, rfl, rfl, rfl, hr⟩
  by_cases he : xs = zs
  · have e1 : Own.eqI xs zs = 1 := if_pos he
    obtain rfl := hr.mpr he
    rw [e1]
    refine Own.W.if_ne (pc := 116) 123 at_116 (by decide) (by decide) (fun h116 => absurd h116 (fun q => q rfl)) ?_
    intro h116
    refine Own.W.iconst (pc := 119) (z := (1 : Int32)) at_119 (by decide) ?_
    refine Own.W.goto (pc := 120) 124 at_120 (by decide) (by decide) ?_
    refine Own.W.iload (pc := 124) at_124 rfl ?_
    refine Own.W.ic_ne (pc := 126) 133 at_126 (by decide) (by decide) (fun h126 => absurd h126 (fun q => q rfl)) ?_
    intro h126
    refine Own.W.iconst (pc := 129) (z := (1 : Int32)) at_129 (by decide) ?_
    refine Own.W.goto (pc := 130) 134 at_130 (by decide) (by decide) ?_
    refine Own.W.iret (pc := 134) at_134 rfl (by simp) (by first | rfl | decide) ?_ (Nat.le_of_ble_eq_true rfl) (Nat.le_of_ble_eq_true rfl)
    exact rfl
  · have e1 : Own.eqI xs zs = 0 := if_neg he
    rw [e1]
    refine Own.W.if_ne (pc := 116) 123 at_116 (by decide) (by decide) ?_ (fun h116 => absurd h116 (fun q => he (hr.mp q)))
    intro h116
    refine Own.W.iconst (pc := 123) (z := (0 : Int32)) at_123 (by decide) ?_
    refine Own.W.iload (pc := 124) at_124 rfl ?_
    refine Own.W.ic_ne (pc := 126) 133 at_126 (by decide) (by decide) (fun h126 => absurd h126 (fun q => q rfl)) ?_
    intro h126
    refine Own.W.iconst (pc := 129) (z := (1 : Int32)) at_129 (by decide) ?_
    refine Own.W.goto (pc := 130) 134 at_130 (by decide) (by decide) ?_
    refine Own.W.iret (pc := 134) at_134 rfl (by simp) (by first | rfl | decide) ?_ (Nat.le_of_ble_eq_true rfl) (Nat.le_of_ble_eq_true rfl)
    exact rfl
set_option maxRecDepth 65536 in
set_option maxHeartbeats 4000000 in
theorem comes_1 {Post : Tables → Env → Array Value → State → Outcome → State → Prop} (hpost : ∀ tb e args s v u, (limb_1_1.after args s (.returned v) u = true ∧ limb_1_2.after args s (.returned v) u = true) → Jvm.D.FramedW s (.returned v) u (Jvm.fieldLocs frame_1_writes args s ++ Jvm.arrayLocs frame_1_arrays args s ++ Jvm.staticLocs frame_1_statics s) 40 5312 → Post tb e args s (.returned v) u) :
    ArmFor flags0 classFile x code maxLocals ret World_1 tables_1 room_1 Calls_1 rest_1 Pre_1 Post := by
  intro l hfl _ _ p e ha hc hk s m args below hf hA hF happ hP
  obtain ⟨hcalls, hrest, hpre⟩ := hP
  obtain ⟨-, -, -, hnamed, -, -, -, hat⟩ := (Spec.applies_iff hf).mp happ
  obtain ⟨hg, hn⟩ := and_e (Cond.before_iff.mp (show (Jvm.Cond.and given_1 narrow_1).before args s = true from hpre))
  obtain ⟨hcnt, hgr⟩ := and_e hg
  obtain ⟨ha0, hgr⟩ := and_e hgr
  obtain ⟨ha1, hgr⟩ := and_e hgr
  have ha2 := hgr
  obtain ⟨w0, w1, w2, rfl⟩ : ∃ w0 w1 w2 : Value, args = #[w0, w1, w2] := by
    have hs : args.size = 3 := by simpa [Cond.value, given_1] using hcnt
    obtain ⟨L⟩ := args
    match L, hs with
    | [w0, w1, w2], _ => exact ⟨w0, w1, w2, rfl⟩
  have hw := fun d (hd : d ∈ tables_1) => atoms_spec (ws := Jvm.Cond.code x code maxLocals ret :: tables_1) hat d (List.mem_cons_of_mem _ hd)
  obtain ⟨hsets, hown0⟩ := atoms_of _ (rest_1_c_eq ▸ (show rest_1_c.before _ s = true from hrest))
  obtain ⟨i0, ei0⟩ := is_v ha0
  obtain rfl : w0 = (.int i0) := Option.some.inj ei0
  obtain ⟨i1, ei1⟩ := is_v ha1
  obtain rfl : w1 = (.int i1) := Option.some.inj ei1
  obtain ⟨i2, ei2⟩ := is_v ha2
  obtain rfl : w2 = (.int i2) := Option.some.inj ei2
  have wS : ∀ a ∈ Bundle.stringAtoms, a.before #[.int i0, .int i1, .int i2] s = true := fun a ha => by
    simp only [Bundle.stringAtoms, Bundle.sN, List.mem_cons, List.not_mem_nil, or_false] at ha
    rcases ha with rfl | rfl | rfl | rfl | rfl | rfl | rfl
    · exact (hw _ (List.mem_of_getElem? (i := 6) rfl))
    · exact (hw _ (List.mem_of_getElem? (i := 5) rfl))
    · exact (hw _ (List.mem_of_getElem? (i := 23) rfl))
    · exact (hw _ (List.mem_of_getElem? (i := 33) rfl))
    · exact (hw _ (List.mem_of_getElem? (i := 31) rfl))
    · exact (hw _ (List.mem_of_getElem? (i := 35) rfl))
    · exact (hw _ (List.mem_of_getElem? (i := 36) rfl))
  have hcw : Jvm.Lit.compactW.before #[.int i0, .int i1, .int i2] s = true := hsets _ (List.mem_of_getElem? (i := 2) rfl)
  obtain ⟨cz, ecz⟩ := is_v (Cond.before_iff.mp (hsets _ (List.mem_of_getElem? (i := 1) rfl)))
  have hC : Own.CSt (l, s, #[.int i0, .int i1, .int i2], false) := ⟨cz, Sta.start ecz (Or.inl (hsets _ (List.mem_of_getElem? (i := 0) rfl))), gotF (Cond.eq_ints ecz (Term.int_eval (0))) (not_v (Cond.before_iff.mp (hsets _ (List.mem_of_getElem? (i := 2) rfl))))⟩
  have hk0 := fun q (hq : q ∈ consts_1) => hcalls.1 q hq
  obtain ⟨em, vem⟩ := exa_v (Cond.before_iff.mp (hsets _ (List.mem_of_getElem? (i := 11) rfl)))
  have Sem : Sta s s.heap "java/util/Optional" "EMPTY" "Ljava/util/Optional;" (.ref em) := Sta.start vem (Or.inl (hsets _ (List.mem_of_getElem? (i := 10) rfl)))
  have Eem := Exa.start vem (Cond.before_iff.mp (hsets _ (List.mem_of_getElem? (i := 11) rfl)))
  have Fem : Fld s s.heap em "java/util/Optional" "value" "Ljava/lang/Object;" .null := Fld.start (by rw [← fld_at vem]; exact null_v (Cond.before_iff.mp (hsets _ (List.mem_of_getElem? (i := 12) rfl))))
  obtain ⟨n, o, g1, g2, g3, v, L, A, I, rfl, rfl, -, -, N, hq, hnw⟩ := ct_law (l, s, #[.int i0, .int i1, .int i2], false) hw tables_1 hC rfl wS hcw (hk0 _ (List.mem_of_getElem? (i := 4) rfl)) (hk0 _ (List.mem_of_getElem? (i := 3) rfl)) (hk0 _ (List.mem_of_getElem? (i := 0) rfl)) (hk0 _ (List.mem_of_getElem? (i := 1) rfl)) (hk0 _ (List.mem_of_getElem? (i := 2) rfl)) em ⟨Sem, Eem, Fem⟩ i0 i1 i2 p e ha hc hk s m _ below hf ((Spec.applies_iff_loose hf).mp happ).1 ⟨rfl, State.Warmed39.refl s, Own.Inv.start _ _ _ _, Own.LI.start s⟩ (Own.FK.start hf)
  exact ⟨n, _, g1, g2, g3, hpost _ _ _ _ _ _ ⟨Cond.after_iff.mpr rfl, Cond.after_iff.mpr (eq_i res_at (Term.int_eval (1)) rfl)⟩ ⟨⟨_, rfl⟩, hq.2.1, hq.2.2.1, (hq.2.2.2.sift fun y hy => Or.inr (N y hy)).mono (by decide) (by decide)⟩⟩
theorem main_1_1 : Claimed_1_1 := comes_1 fun _ _ _ _ _ _ h hF => ⟨h.1, hF⟩
theorem main_1_2 : Claimed_1_2 := comes_1 fun _ _ _ _ _ _ h hF => ⟨h.2, hF⟩
end Jvm.Pilot.@@N@@
namespace Jvm.Pilot.@@N@@
open Jvm Jvm.ClassFile Sem Op Lib Jvm.Free Jvm.Stand Jvm.Pilot.@@N@@.Jvm.D
/-! MADE BY PROGRAM (witnessworld.py) out of the Statement's table words and the real class files: 28 classes; the members and pool entries that the words name. The judged class is class 1, her method 2. -/
namespace start1
open Jvm.ClassFile
def u (s : String) : CpInfo := .utf8 (stringToUtf16 s)
/-- a pool by its gaps: so many unusable entries, then the entry; so many at the end -/
def gap : Nat → List CpInfo → List CpInfo
  | 0, r => r
  | n + 1, r => .unusable :: gap n r
def poolList (es : List (Nat × CpInfo)) (last : Nat) : List CpInfo := es.foldr (fun e r => gap e.1 (e.2 :: r)) (gap last [])
def pool (es : List (Nat × CpInfo)) (last : Nat) : Array CpInfo := ⟨poolList es last⟩
def fileOf (pool : Array CpInfo) (this : Nat) (attrs : Array Attribute := #[]) (ms : Array MethodInfo := #[]) (fl : Nat := 33) (sup : Nat := 0) (ifs : Array Nat := #[]) (fds : Array FieldInfo := #[]) : ClassFile where
  minorVersion := 0
  majorVersion := 65
  constantPool := pool
  accessFlags := fl
  thisClass := this
  superClass := sup
  interfaces := ifs
  fields := fds
  methods := ms
  attributes := attrs
def plain (name : String) (sup : Option ClassId) : Class where
  name := name
  kind := .ordinary
  loader := none
  accessFlags := 33
  super := sup
  interfaces := #[]
  cf := none
  fields := #[]
  methods := #[]
  instanceTypes := #[]
  staticTypes := #[]
  resolved := #[]
  callSites := []
  init := .initialized
  statics := none
  mirror := none

def pool0 : Array CpInfo := pool [(5, u "<init>"), (0, u "()V"), (1, .class_ 10), (1, u "java/lang/Object")] 113

def k0c0 : Code := { maxStack := 0, maxLocals := 1, code := object_method_1_code, exceptionTable := #[], attributes := #[] }
def k0m0 : Method := { name := "<init>", desc := "()V", sig := { parameters := [], returnType := none }, accessFlags := 1, code := some k0c0 }
/-- java/lang/Object -/
def k0 : Class := { plain "java/lang/Object" none with
  accessFlags := 33
  interfaces := #[]
  cf := some (fileOf pool0 8 #[] #[{ accessFlags := 1, nameIndex := 5, descriptorIndex := 6, attributes := #[] }] 33 0 #[] #[])
  fields := #[]
  methods := #[k0m0]
  instanceTypes := #[]
  staticTypes := #[]
  resolved := Array.replicate 124 none
  statics := none }

def pool1 : Array CpInfo := pool [(2, .class_ 4), (1, u "java/lang/Object"), (0, u "<init>"), (0, u "()V"), (0, .class_ 8), (0, u "java/lang/String"), (0, .methodref 7 10), (0, .nameAndType 5 11), (0, u "([C)V"), (0, .methodref 13 14), (0, .class_ 15), (0, .nameAndType 16 17), (0, u "com/example/stairwell/stairwell/core/StepRepeatablePinLaw"), (0, u "mk"), (0, u "(II)Ljava/lang/String;"), (0, .methodref 7 19), (0, .nameAndType 20 21), (0, u "equals"), (0, u "(Ljava/lang/Object;)Z"), (0, .methodref 23 24), (0, .class_ 25), (0, .nameAndType 26 27), (0, u "com/example/stairwell/stairwell/core/Step"), (0, u "repeatable"), (0, u "(Ljava/lang/String;)Lcom/example/stairwell/stairwell/core/Step;"), (0, .methodref 23 29), (0, .nameAndType 30 31), (0, u "isRepeatable"), (0, u "()Z"), (0, .methodref 23 33), (0, .nameAndType 34 35), (0, u "name"), (0, u "()Ljava/lang/String;"), (0, .string 37), (0, u "R"), (0, .methodref 23 39), (0, .nameAndType 40 35), (0, u "writtenVersion"), (0, .methodref 23 19), (0, .methodref 23 43), (0, .nameAndType 44 45), (0, u "compareTo"), (0, u "(Lcom/example/stairwell/stairwell/core/Step;)I"), (3, u "law"), (0, u "(III)Z")] 2

def k1m0 : Method := { name := "<init>", desc := "()V", sig := { parameters := [], returnType := none }, accessFlags := 1, code := none }
def k1c1 : Code := { maxStack := 6, maxLocals := 5, code := method_2_code, exceptionTable := #[], attributes := #[] }
def k1m1 : Method := { name := "mk", desc := "(II)Ljava/lang/String;", sig := { parameters := [.int, .int], returnType := some (.object "java/lang/String") }, accessFlags := 10, code := some k1c1 }
def k1c2 : Code := { maxStack := 3, maxLocals := 8, code := code, exceptionTable := #[], attributes := #[] }
def k1m2 : Method := { name := "law", desc := "(III)Z", sig := { parameters := [.int, .int, .int], returnType := some .boolean }, accessFlags := 9, code := some k1c2 }
/-- com/example/stairwell/stairwell/core/StepRepeatablePinLaw -/
def k1 : Class := { plain "com/example/stairwell/stairwell/core/StepRepeatablePinLaw" (some 0) with
  accessFlags := 49
  interfaces := #[]
  cf := some (fileOf pool1 13 #[] #[{ accessFlags := 1, nameIndex := 5, descriptorIndex := 6, attributes := #[] }, { accessFlags := 10, nameIndex := 16, descriptorIndex := 17, attributes := #[] }, { accessFlags := 9, nameIndex := 49, descriptorIndex := 50, attributes := #[] }] 49 2 #[] #[])
  fields := #[]
  methods := #[k1m0, k1m1, k1m2]
  instanceTypes := #[]
  staticTypes := #[]
  resolved := Array.replicate 53 none
  statics := none }

def pool2 : Array CpInfo := pool [(1, .class_ 2), (0, u "java/io/Serializable"), (0, .class_ 4), (0, u "java/lang/Object")] 2

/-- java/io/Serializable -/
def k2 : Class := { plain "java/io/Serializable" (some 0) with
  accessFlags := 1537
  interfaces := #[]
  cf := some (fileOf pool2 1 #[] #[] 1537 3 #[] #[])
  fields := #[]
  methods := #[]
  instanceTypes := #[]
  staticTypes := #[]
  resolved := Array.replicate 7 none
  statics := none }

def pool3 : Array CpInfo := pool [(1, .class_ 2), (0, u "java/lang/Comparable"), (0, .class_ 4), (0, u "java/lang/Object")] 7

/-- java/lang/Comparable -/
def k3 : Class := { plain "java/lang/Comparable" (some 0) with
  accessFlags := 1537
  interfaces := #[]
  cf := some (fileOf pool3 1 #[] #[] 1537 3 #[] #[])
  fields := #[]
  methods := #[]
  instanceTypes := #[]
  staticTypes := #[]
  resolved := Array.replicate 12 none
  statics := none }

def pool4 : Array CpInfo := pool [(2, .class_ 4), (1, u "java/lang/CharSequence"), (42, .class_ 48), (0, u "java/lang/CharSequence$1CodePointIterator"), (10, .class_ 60), (0, u "java/lang/CharSequence$1CharIterator"), (5, .class_ 67), (0, u "java/lang/Object")] 63

/-- java/lang/CharSequence -/
def k4 : Class := { plain "java/lang/CharSequence" (some 0) with
  accessFlags := 1537
  interfaces := #[]
  cf := some (fileOf pool4 2 #[.nestMembers #[47, 59]] #[] 1537 66 #[] #[])
  fields := #[]
  methods := #[]
  instanceTypes := #[]
  staticTypes := #[]
  resolved := Array.replicate 131 none
  statics := none }

def pool5 : Array CpInfo := pool [(1, .class_ 2), (0, u "java/lang/constant/Constable"), (0, .class_ 4), (0, u "java/lang/Object")] 6

/-- java/lang/constant/Constable -/
def k5 : Class := { plain "java/lang/constant/Constable" (some 0) with
  accessFlags := 1537
  interfaces := #[]
  cf := some (fileOf pool5 1 #[] #[] 1537 3 #[] #[])
  fields := #[]
  methods := #[]
  instanceTypes := #[]
  staticTypes := #[]
  resolved := Array.replicate 11 none
  statics := none }

def pool6 : Array CpInfo := pool [(1, .class_ 2), (0, u "java/lang/constant/ConstantDesc"), (0, .class_ 4), (0, u "java/lang/Object")] 32

/-- java/lang/constant/ConstantDesc -/
def k6 : Class := { plain "java/lang/constant/ConstantDesc" (some 0) with
  accessFlags := 1537
  interfaces := #[]
  cf := some (fileOf pool6 1 #[] #[] 1537 3 #[] #[])
  fields := #[]
  methods := #[]
  instanceTypes := #[]
  staticTypes := #[]
  resolved := Array.replicate 37 none
  statics := none }

def pool7 : Array CpInfo := pool [(1, .methodref 2 3), (0, .class_ 4), (0, .nameAndType 5 6), (0, u "java/lang/Object"), (0, u "<init>"), (0, u "()V"), (0, .string 8), (0, u ""), (0, .fieldref 10 11), (0, .class_ 12), (0, .nameAndType 13 14), (0, u "java/lang/String"), (0, u "value"), (0, u "[B"), (0, .fieldref 10 16), (0, .nameAndType 17 18), (0, u "coder"), (0, u "B"), (2, u "hash"), (0, u "I"), (2, u "hashIsZero"), (0, u "Z"), (0, .methodref 10 28), (0, .nameAndType 5 29), (0, u "([CIILjava/lang/Void;)V"), (8, .fieldref 10 39), (0, .nameAndType 40 26), (0, u "COMPACT_STRINGS"), (1, .class_ 44), (1, u "java/lang/StringUTF16"), (0, u "compress"), (1, .methodref 42 48), (0, .nameAndType 49 50), (0, u "coderFromArrayLen"), (0, u "([BI)B"), (56, .class_ 109), (1, u "java/lang/StringLatin1"), (67, .methodref 42 178), (0, .nameAndType 45 179), (0, u "([CII)[B"), (155, .methodref 10 336), (0, .nameAndType 17 337), (0, u "()B"), (203, .methodref 107 542), (0, .nameAndType 543 544), (0, u "equals"), (0, u "([B[B)Z"), (28, u "(Ljava/lang/Object;)Z"), (1, .class_ 576), (0, u "java/lang/CharSequence"), (9, .methodref 107 587), (0, .nameAndType 588 589), (0, u "compareTo"), (0, u "([B[B)I"), (9, u "CASE_INSENSITIVE_ORDER"), (0, u "Ljava/util/Comparator;"), (112, u "(Ljava/lang/String;)I"), (296, u "([C)V"), (90, u "serialPersistentFields"), (0, u "[Ljava/io/ObjectStreamField;"), (0, .class_ 1104), (0, u "java/lang/String$CaseInsensitiveComparator"), (1, .class_ 1107), (0, u "java/io/Serializable"), (0, .class_ 1109), (0, u "java/lang/Comparable"), (0, .class_ 1111), (0, u "java/lang/constant/Constable"), (0, .class_ 1113), (0, u "java/lang/constant/ConstantDesc"), (2, u "serialVersionUID"), (0, u "J"), (3, u "REPL"), (0, u "C"), (2, u "LATIN1"), (1, u "UTF16")] 323

def k7m0 : Method := { name := "<init>", desc := "()V", sig := { parameters := [], returnType := none }, accessFlags := 1, code := none }
def k7c1 : Code := { maxStack := 5, maxLocals := 2, code := jdk_42_method_3_code, exceptionTable := #[], attributes := #[] }
def k7m1 : Method := { name := "<init>", desc := "([C)V", sig := { parameters := [(.array .char)], returnType := none }, accessFlags := 1, code := some k7c1 }
def k7c2 : Code := { maxStack := 2, maxLocals := 3, code := jdk_42_method_66_code, exceptionTable := #[], attributes := #[] }
def k7m2 : Method := { name := "equals", desc := "(Ljava/lang/Object;)Z", sig := { parameters := [(.object "java/lang/Object")], returnType := some .boolean }, accessFlags := 1, code := some k7c2 }
def k7c3 : Code := { maxStack := 2, maxLocals := 5, code := jdk_42_method_71_code, exceptionTable := #[], attributes := #[] }
def k7m3 : Method := { name := "compareTo", desc := "(Ljava/lang/String;)I", sig := { parameters := [(.object "java/lang/String")], returnType := some .int }, accessFlags := 1, code := some k7c3 }
def k7c4 : Code := { maxStack := 4, maxLocals := 6, code := jdk_42_method_149_code, exceptionTable := #[], attributes := #[] }
def k7m4 : Method := { name := "<init>", desc := "([CIILjava/lang/Void;)V", sig := { parameters := [(.array .char), .int, .int, (.object "java/lang/Void")], returnType := none }, accessFlags := 2, code := some k7c4 }
def k7c5 : Code := { maxStack := 1, maxLocals := 1, code := jdk_42_method_152_code, exceptionTable := #[], attributes := #[] }
def k7m5 : Method := { name := "coder", desc := "()B", sig := { parameters := [], returnType := some .byte }, accessFlags := 0, code := some k7c5 }
/-- java/lang/String -/
def k7 : Class := { plain "java/lang/String" (some 0) with
  accessFlags := 49
  interfaces := #[2, 3, 4, 5, 6]
  cf := some (fileOf pool7 10 #[.nestMembers #[1103]] #[{ accessFlags := 1, nameIndex := 5, descriptorIndex := 6, attributes := #[] }, { accessFlags := 1, nameIndex := 5, descriptorIndex := 1010, attributes := #[] }, { accessFlags := 1, nameIndex := 543, descriptorIndex := 573, attributes := #[] }, { accessFlags := 1, nameIndex := 588, descriptorIndex := 713, attributes := #[] }, { accessFlags := 2, nameIndex := 5, descriptorIndex := 29, attributes := #[] }, { accessFlags := 0, nameIndex := 17, descriptorIndex := 337, attributes := #[] }] 49 2 #[1106, 1108, 575, 1110, 1112] #[{ accessFlags := 18, nameIndex := 13, descriptorIndex := 14, attributes := #[] }, { accessFlags := 18, nameIndex := 17, descriptorIndex := 18, attributes := #[] }, { accessFlags := 2, nameIndex := 21, descriptorIndex := 22, attributes := #[] }, { accessFlags := 2, nameIndex := 25, descriptorIndex := 26, attributes := #[] }, { accessFlags := 26, nameIndex := 1116, descriptorIndex := 1117, attributes := #[] }, { accessFlags := 24, nameIndex := 40, descriptorIndex := 26, attributes := #[] }, { accessFlags := 26, nameIndex := 1101, descriptorIndex := 1102, attributes := #[] }, { accessFlags := 26, nameIndex := 1121, descriptorIndex := 1122, attributes := #[] }, { accessFlags := 25, nameIndex := 599, descriptorIndex := 600, attributes := #[] }, { accessFlags := 24, nameIndex := 1125, descriptorIndex := 18, attributes := #[] }, { accessFlags := 24, nameIndex := 1127, descriptorIndex := 18, attributes := #[] }])
  fields := #[{ name := "value", type := (.array .byte), accessFlags := 18, slot := 0, constantValue := 0 }, { name := "coder", type := .byte, accessFlags := 18, slot := 1, constantValue := 0 }, { name := "hash", type := .int, accessFlags := 2, slot := 2, constantValue := 0 }, { name := "hashIsZero", type := .boolean, accessFlags := 2, slot := 3, constantValue := 0 }, { name := "serialVersionUID", type := .long, accessFlags := 26, slot := 0, constantValue := 0 }, { name := "COMPACT_STRINGS", type := .boolean, accessFlags := 24, slot := 1, constantValue := 0 }, { name := "serialPersistentFields", type := (.array (.object "java/io/ObjectStreamField")), accessFlags := 26, slot := 2, constantValue := 0 }, { name := "REPL", type := .char, accessFlags := 26, slot := 3, constantValue := 0 }, { name := "CASE_INSENSITIVE_ORDER", type := (.object "java/util/Comparator"), accessFlags := 25, slot := 4, constantValue := 0 }, { name := "LATIN1", type := .byte, accessFlags := 24, slot := 5, constantValue := 0 }, { name := "UTF16", type := .byte, accessFlags := 24, slot := 6, constantValue := 0 }]
  methods := #[k7m0, k7m1, k7m2, k7m3, k7m4, k7m5]
  instanceTypes := #[(.array .byte), .byte, .int, .boolean]
  staticTypes := #[.long, .boolean, (.array (.object "java/io/ObjectStreamField")), .char, (.object "java/util/Comparator"), .byte, .byte]
  resolved := Array.replicate 1451 none
  statics := some 0 }

def pool8 : Array CpInfo := pool [(6, .class_ 8), (1, u "java/lang/Object"), (0, u "<init>"), (0, u "()V"), (1, .class_ 14), (1, u "java/lang/StringUTF16"), (31, u "$assertionsDisabled"), (0, u "Z"), (13, u "HI_BYTE_SHIFT"), (0, u "I"), (2, u "LO_BYTE_SHIFT"), (49, .methodref 12 116), (0, .nameAndType 117 118), (0, u "compress"), (0, u "([CI[BII)I"), (3, u "([CII)[B"), (138, u "coderFromArrayLen"), (0, u "([BI)B"), (106, .class_ 371), (1, u "java/lang/StringUTF16$LinesSpliterator"), (58, u "MAX_LENGTH"), (196, .class_ 628), (0, u "java/lang/StringUTF16$CodePointsSpliterator"), (0, .class_ 630), (0, u "java/lang/StringUTF16$CharsSpliterator")] 4

def k8m0 : Method := { name := "<init>", desc := "()V", sig := { parameters := [], returnType := none }, accessFlags := 0, code := none }
def k8c1 : Code := { maxStack := 2, maxLocals := 2, code := jdk_52_method_15_code, exceptionTable := #[], attributes := #[] }
def k8m1 : Method := { name := "coderFromArrayLen", desc := "([BI)B", sig := { parameters := [(.array .byte), .int], returnType := some .byte }, accessFlags := 8, code := some k8c1 }
def k8c2 : Code := { maxStack := 5, maxLocals := 6, code := jdk_52_method_16_code, exceptionTable := #[], attributes := #[] }
def k8m2 : Method := { name := "compress", desc := "([CII)[B", sig := { parameters := [(.array .char), .int, .int], returnType := some (.array .byte) }, accessFlags := 9, code := some k8c2 }
def k8c3 : Code := { maxStack := 3, maxLocals := 7, code := jdk_52_method_21_code, exceptionTable := #[], attributes := #[] }
def k8m3 : Method := { name := "compress", desc := "([CI[BII)I", sig := { parameters := [(.array .char), .int, (.array .byte), .int, .int], returnType := some .int }, accessFlags := 9, code := some k8c3 }
/-- java/lang/StringUTF16 -/
def k8 : Class := { plain "java/lang/StringUTF16" (some 0) with
  accessFlags := 48
  interfaces := #[]
  cf := some (fileOf pool8 12 #[.nestMembers #[627, 629, 369]] #[{ accessFlags := 0, nameIndex := 9, descriptorIndex := 10, attributes := #[] }, { accessFlags := 8, nameIndex := 261, descriptorIndex := 262, attributes := #[] }, { accessFlags := 9, nameIndex := 117, descriptorIndex := 122, attributes := #[] }, { accessFlags := 9, nameIndex := 117, descriptorIndex := 118, attributes := #[] }] 48 6 #[] #[{ accessFlags := 26, nameIndex := 61, descriptorIndex := 62, attributes := #[] }, { accessFlags := 26, nameIndex := 65, descriptorIndex := 62, attributes := #[] }, { accessFlags := 24, nameIndex := 430, descriptorIndex := 62, attributes := #[] }, { accessFlags := 4120, nameIndex := 46, descriptorIndex := 47, attributes := #[] }])
  fields := #[{ name := "HI_BYTE_SHIFT", type := .int, accessFlags := 26, slot := 0, constantValue := 0 }, { name := "LO_BYTE_SHIFT", type := .int, accessFlags := 26, slot := 1, constantValue := 0 }, { name := "MAX_LENGTH", type := .int, accessFlags := 24, slot := 2, constantValue := 0 }, { name := "$assertionsDisabled", type := .boolean, accessFlags := 4120, slot := 3, constantValue := 0 }]
  methods := #[k8m0, k8m1, k8m2, k8m3]
  instanceTypes := #[]
  staticTypes := #[.int, .int, .int, .boolean]
  resolved := Array.replicate 635 none
  statics := none }

def pool9 : Array CpInfo := pool [(4, .class_ 6), (1, u "java/lang/Object"), (0, u "<init>"), (0, u "()V"), (5, .class_ 16), (1, u "java/lang/StringLatin1"), (17, .methodref 14 35), (0, .nameAndType 36 37), (0, u "compareTo"), (0, u "([B[BII)I"), (0, .methodref 39 40), (0, .class_ 41), (0, .nameAndType 42 43), (0, u "java/lang/Math"), (0, u "min"), (0, u "(II)I"), (0, .methodref 45 46), (0, .class_ 47), (0, .nameAndType 48 49), (0, u "jdk/internal/util/ArraysSupport"), (0, u "mismatch"), (0, u "([B[BI)I"), (0, .methodref 14 51), (0, .nameAndType 52 53), (0, u "getChar"), (0, u "([BI)C"), (67, u "$assertionsDisabled"), (0, u "Z"), (98, .class_ 223), (1, u "java/lang/StringLatin1$LinesSpliterator"), (57, u "equals"), (0, u "([B[B)Z"), (4, u "([B[B)I"), (102, .class_ 391), (0, u "java/lang/StringLatin1$CharsSpliterator")] 3

def k9m0 : Method := { name := "<init>", desc := "()V", sig := { parameters := [], returnType := none }, accessFlags := 0, code := none }
def k9c1 : Code := { maxStack := 3, maxLocals := 3, code := jdk_43_method_13_code, exceptionTable := #[], attributes := #[] }
def k9m1 : Method := { name := "equals", desc := "([B[B)Z", sig := { parameters := [(.array .byte), (.array .byte)], returnType := some .boolean }, accessFlags := 9, code := some k9c1 }
def k9c2 : Code := { maxStack := 4, maxLocals := 4, code := jdk_43_method_14_code, exceptionTable := #[], attributes := #[] }
def k9m2 : Method := { name := "compareTo", desc := "([B[B)I", sig := { parameters := [(.array .byte), (.array .byte)], returnType := some .int }, accessFlags := 9, code := some k9c2 }
def k9c3 : Code := { maxStack := 3, maxLocals := 6, code := jdk_43_method_15_code, exceptionTable := #[], attributes := #[] }
def k9m3 : Method := { name := "compareTo", desc := "([B[BII)I", sig := { parameters := [(.array .byte), (.array .byte), .int, .int], returnType := some .int }, accessFlags := 9, code := some k9c3 }
def k9c4 : Code := { maxStack := 2, maxLocals := 2, code := jdk_43_method_44_code, exceptionTable := #[], attributes := #[] }
def k9m4 : Method := { name := "getChar", desc := "([BI)C", sig := { parameters := [(.array .byte), .int], returnType := some .char }, accessFlags := 9, code := some k9c4 }
/-- java/lang/StringLatin1 -/
def k9 : Class := { plain "java/lang/StringLatin1" (some 0) with
  accessFlags := 48
  interfaces := #[]
  cf := some (fileOf pool9 14 #[.nestMembers #[390, 221]] #[{ accessFlags := 0, nameIndex := 7, descriptorIndex := 8, attributes := #[] }, { accessFlags := 9, nameIndex := 281, descriptorIndex := 282, attributes := #[] }, { accessFlags := 9, nameIndex := 36, descriptorIndex := 287, attributes := #[] }, { accessFlags := 9, nameIndex := 36, descriptorIndex := 37, attributes := #[] }, { accessFlags := 9, nameIndex := 52, descriptorIndex := 53, attributes := #[] }] 48 4 #[] #[{ accessFlags := 4120, nameIndex := 121, descriptorIndex := 122, attributes := #[] }])
  fields := #[{ name := "$assertionsDisabled", type := .boolean, accessFlags := 4120, slot := 0, constantValue := 0 }]
  methods := #[k9m0, k9m1, k9m2, k9m3, k9m4]
  instanceTypes := #[]
  staticTypes := #[.boolean]
  resolved := Array.replicate 395 none
  statics := none }

def pool10 : Array CpInfo := pool [(1, .methodref 2 3), (0, .class_ 4), (0, .nameAndType 5 6), (0, u "java/lang/Object"), (0, u "<init>"), (0, u "()V"), (0, .class_ 8), (0, u "java/lang/Record")] 13

def k10c0 : Code := { maxStack := 1, maxLocals := 1, code := jdk_30_method_1_code, exceptionTable := #[], attributes := #[] }
def k10m0 : Method := { name := "<init>", desc := "()V", sig := { parameters := [], returnType := none }, accessFlags := 4, code := some k10c0 }
/-- java/lang/Record -/
def k10 : Class := { plain "java/lang/Record" (some 0) with
  accessFlags := 1057
  interfaces := #[]
  cf := some (fileOf pool10 7 #[] #[{ accessFlags := 4, nameIndex := 5, descriptorIndex := 6, attributes := #[] }] 1057 2 #[] #[])
  fields := #[]
  methods := #[k10m0]
  instanceTypes := #[]
  staticTypes := #[]
  resolved := Array.replicate 22 none
  statics := none }

def pool11 : Array CpInfo := pool [(1, .methodref 2 3), (0, .class_ 4), (0, .nameAndType 5 6), (0, u "java/lang/Record"), (0, u "<init>"), (0, u "()V"), (0, .string 8), (0, u "version"), (0, .methodref 10 11), (0, .class_ 12), (0, .nameAndType 13 14), (0, u "java/util/Objects"), (0, u "requireNonNull"), (0, u "(Ljava/lang/Object;Ljava/lang/String;)Ljava/lang/Object;"), (0, .string 16), (0, u "name"), (0, .fieldref 18 19), (0, .class_ 20), (0, .nameAndType 8 21), (0, u "com/example/stairwell/stairwell/core/Step"), (0, u "Ljava/util/Optional;"), (0, .fieldref 18 23), (0, .nameAndType 16 24), (0, u "Ljava/lang/String;"), (0, .class_ 26), (0, u "com/example/stairwell/stairwell/core/Version"), (1, .class_ 30), (1, u "java/util/Optional"), (2, .methodref 18 34), (0, .nameAndType 5 35), (0, u "(Ljava/util/Optional;Ljava/lang/String;)V"), (0, .methodref 28 37), (0, .nameAndType 38 39), (0, u "empty"), (0, u "()Ljava/util/Optional;"), (0, .string 41), (0, u "R"), (0, .methodref 43 44), (0, .class_ 45), (0, .nameAndType 46 47), (0, u "java/lang/String"), (0, u "equals"), (0, u "(Ljava/lang/Object;)Z"), (2, u "repeatable"), (0, u "(Ljava/lang/String;)Lcom/example/stairwell/stairwell/core/Step;"), (7, .methodref 28 60), (0, .nameAndType 61 62), (0, u "isEmpty"), (0, u "()Z"), (0, .invokeDynamic 0 64), (0, .nameAndType 65 66), (0, u "apply"), (0, u "()Ljava/util/function/Function;"), (0, .methodref 28 68), (0, .nameAndType 69 70), (0, u "map"), (0, u "(Ljava/util/function/Function;)Ljava/util/Optional;"), (0, .methodref 28 72), (0, .nameAndType 73 74), (0, u "orElse"), (0, u "(Ljava/lang/Object;)Ljava/lang/Object;"), (0, .methodref 28 44), (5, .methodref 28 82), (0, .nameAndType 83 62), (0, u "isPresent"), (6, u "compareTo"), (1, .methodref 93 94), (0, .class_ 95), (0, .nameAndType 96 97), (0, u "java/lang/Boolean"), (0, u "compare"), (0, u "(ZZ)I"), (0, .methodref 43 99), (0, .nameAndType 90 100), (0, u "(Ljava/lang/String;)I"), (2, u "writtenVersion"), (0, u "()Ljava/lang/String;"), (6, u "(Lcom/example/stairwell/stairwell/core/Step;)I"), (0, .class_ 113), (0, u "java/lang/Comparable"), (2, u "REPEATABLE"), (8, u "isRepeatable"), (0, u "toString"), (7, .methodType 74), (0, .methodHandle 5 136), (0, .methodref 25 137), (0, .nameAndType 126 104), (0, .methodType 139), (0, u "(Lcom/example/stairwell/stairwell/core/Version;)Ljava/lang/String;"), (2, .methodHandle 6 143), (0, .methodref 144 145), (0, .class_ 146), (0, .nameAndType 147 148), (0, u "java/lang/invoke/LambdaMetafactory"), (0, u "metafactory"), (0, u "(Ljava/lang/invoke/MethodHandles$Lookup;Ljava/lang/String;Ljava/lang/invoke/MethodType;Ljava/lang/invoke/MethodType;Ljava/lang/invoke/MethodHandle;Ljava/lang/invoke/MethodType;)Ljava/lang/invoke/CallSite;")] 12

def k11c0 : Code := { maxStack := 2, maxLocals := 3, code := prog_21_method_1_code, exceptionTable := #[], attributes := #[] }
def k11m0 : Method := { name := "<init>", desc := "(Ljava/util/Optional;Ljava/lang/String;)V", sig := { parameters := [(.object "java/util/Optional"), (.object "java/lang/String")], returnType := none }, accessFlags := 1, code := some k11c0 }
def k11c1 : Code := { maxStack := 4, maxLocals := 1, code := prog_21_method_3_code, exceptionTable := #[], attributes := #[] }
def k11m1 : Method := { name := "repeatable", desc := "(Ljava/lang/String;)Lcom/example/stairwell/stairwell/core/Step;", sig := { parameters := [(.object "java/lang/String")], returnType := some (.object "com/example/stairwell/stairwell/core/Step") }, accessFlags := 9, code := some k11c1 }
def k11c2 : Code := { maxStack := 1, maxLocals := 1, code := prog_21_method_5_code, exceptionTable := #[], attributes := #[] }
def k11m2 : Method := { name := "isRepeatable", desc := "()Z", sig := { parameters := [], returnType := some .boolean }, accessFlags := 1, code := some k11c2 }
def k11c3 : Code := { maxStack := 2, maxLocals := 1, code := prog_21_method_6_code, exceptionTable := #[], attributes := #[] }
def k11m3 : Method := { name := "writtenVersion", desc := "()Ljava/lang/String;", sig := { parameters := [], returnType := some (.object "java/lang/String") }, accessFlags := 1, code := some k11c3 }
def k11c4 : Code := { maxStack := 2, maxLocals := 3, code := prog_21_method_7_code, exceptionTable := #[], attributes := #[] }
def k11m4 : Method := { name := "equals", desc := "(Ljava/lang/Object;)Z", sig := { parameters := [(.object "java/lang/Object")], returnType := some .boolean }, accessFlags := 1, code := some k11c4 }
def k11c5 : Code := { maxStack := 2, maxLocals := 3, code := prog_21_method_9_code, exceptionTable := #[], attributes := #[] }
def k11m5 : Method := { name := "compareTo", desc := "(Lcom/example/stairwell/stairwell/core/Step;)I", sig := { parameters := [(.object "com/example/stairwell/stairwell/core/Step")], returnType := some .int }, accessFlags := 1, code := some k11c5 }
def k11c6 : Code := { maxStack := 1, maxLocals := 1, code := prog_21_method_12_code, exceptionTable := #[], attributes := #[] }
def k11m6 : Method := { name := "name", desc := "()Ljava/lang/String;", sig := { parameters := [], returnType := some (.object "java/lang/String") }, accessFlags := 1, code := some k11c6 }
/-- com/example/stairwell/stairwell/core/Step -/
def k11 : Class := { plain "com/example/stairwell/stairwell/core/Step" (some 10) with
  accessFlags := 49
  interfaces := #[3]
  cf := some (fileOf pool11 18 #[.bootstrapMethods #[⟨142, #[134, 135, 138]⟩, ⟨0, #[]⟩]] #[{ accessFlags := 1, nameIndex := 5, descriptorIndex := 35, attributes := #[] }, { accessFlags := 9, nameIndex := 50, descriptorIndex := 51, attributes := #[] }, { accessFlags := 1, nameIndex := 125, descriptorIndex := 62, attributes := #[] }, { accessFlags := 1, nameIndex := 103, descriptorIndex := 104, attributes := #[] }, { accessFlags := 1, nameIndex := 46, descriptorIndex := 47, attributes := #[] }, { accessFlags := 1, nameIndex := 90, descriptorIndex := 111, attributes := #[] }, { accessFlags := 1, nameIndex := 16, descriptorIndex := 104, attributes := #[] }] 49 2 #[112] #[{ accessFlags := 18, nameIndex := 8, descriptorIndex := 21, attributes := #[] }, { accessFlags := 18, nameIndex := 16, descriptorIndex := 24, attributes := #[] }, { accessFlags := 25, nameIndex := 116, descriptorIndex := 24, attributes := #[] }])
  fields := #[{ name := "version", type := (.object "java/util/Optional"), accessFlags := 18, slot := 0, constantValue := 0 }, { name := "name", type := (.object "java/lang/String"), accessFlags := 18, slot := 1, constantValue := 0 }, { name := "REPEATABLE", type := (.object "java/lang/String"), accessFlags := 25, slot := 0, constantValue := 0 }]
  methods := #[k11m0, k11m1, k11m2, k11m3, k11m4, k11m5, k11m6]
  instanceTypes := #[(.object "java/util/Optional"), (.object "java/lang/String")]
  staticTypes := #[(.object "java/lang/String")]
  resolved := Array.replicate 161 none
  callSites := [(3, 4, .constant 3)]
  statics := none }

def pool12 : Array CpInfo := pool [(1, .fieldref 2 3), (0, .class_ 4), (0, .nameAndType 5 6), (0, u "java/util/Optional"), (0, u "EMPTY"), (0, u "Ljava/util/Optional;"), (1, .class_ 10), (1, u "java/lang/Object"), (2, .fieldref 2 14), (0, .nameAndType 15 16), (0, u "value"), (0, u "Ljava/lang/Object;"), (0, .methodref 18 19), (0, .class_ 20), (0, .nameAndType 21 22), (0, u "java/util/Objects"), (0, u "requireNonNull"), (0, u "(Ljava/lang/Object;)Ljava/lang/Object;"), (20, .methodref 2 44), (0, .nameAndType 45 46), (0, u "isEmpty"), (0, u "()Z"), (5, u "(Ljava/lang/Object;)Z"), (0, .methodref 2 54), (0, .nameAndType 55 56), (0, u "empty"), (0, u "()Ljava/util/Optional;"), (11, u "isPresent"), (19, u "equals"), (57, u "map"), (0, u "(Ljava/util/function/Function;)Ljava/util/Optional;"), (17, u "orElse")] 21

def k12c0 : Code := { maxStack := 1, maxLocals := 1, code := jdk_32_method_1_code, exceptionTable := #[], attributes := #[] }
def k12m0 : Method := { name := "empty", desc := "()Ljava/util/Optional;", sig := { parameters := [], returnType := some (.object "java/util/Optional") }, accessFlags := 9, code := some k12c0 }
def k12c1 : Code := { maxStack := 1, maxLocals := 1, code := jdk_32_method_6_code, exceptionTable := #[], attributes := #[] }
def k12m1 : Method := { name := "isPresent", desc := "()Z", sig := { parameters := [], returnType := some .boolean }, accessFlags := 1, code := some k12c1 }
def k12c2 : Code := { maxStack := 1, maxLocals := 1, code := jdk_32_method_7_code, exceptionTable := #[], attributes := #[] }
def k12m2 : Method := { name := "isEmpty", desc := "()Z", sig := { parameters := [], returnType := some .boolean }, accessFlags := 1, code := some k12c2 }
def k12c3 : Code := { maxStack := 2, maxLocals := 2, code := jdk_32_method_11_code, exceptionTable := #[], attributes := #[] }
def k12m3 : Method := { name := "map", desc := "(Ljava/util/function/Function;)Ljava/util/Optional;", sig := { parameters := [(.object "java/util/function/Function")], returnType := some (.object "java/util/Optional") }, accessFlags := 1, code := some k12c3 }
def k12c4 : Code := { maxStack := 1, maxLocals := 2, code := jdk_32_method_15_code, exceptionTable := #[], attributes := #[] }
def k12m4 : Method := { name := "orElse", desc := "(Ljava/lang/Object;)Ljava/lang/Object;", sig := { parameters := [(.object "java/lang/Object")], returnType := some (.object "java/lang/Object") }, accessFlags := 1, code := some k12c4 }
def k12c5 : Code := { maxStack := 2, maxLocals := 3, code := jdk_32_method_19_code, exceptionTable := #[], attributes := #[] }
def k12m5 : Method := { name := "equals", desc := "(Ljava/lang/Object;)Z", sig := { parameters := [(.object "java/lang/Object")], returnType := some .boolean }, accessFlags := 1, code := some k12c5 }
/-- java/util/Optional -/
def k12 : Class := { plain "java/util/Optional" (some 0) with
  accessFlags := 49
  interfaces := #[]
  cf := some (fileOf pool12 2 #[] #[{ accessFlags := 9, nameIndex := 55, descriptorIndex := 56, attributes := #[] }, { accessFlags := 1, nameIndex := 68, descriptorIndex := 46, attributes := #[] }, { accessFlags := 1, nameIndex := 45, descriptorIndex := 46, attributes := #[] }, { accessFlags := 1, nameIndex := 146, descriptorIndex := 147, attributes := #[] }, { accessFlags := 1, nameIndex := 165, descriptorIndex := 22, attributes := #[] }, { accessFlags := 1, nameIndex := 88, descriptorIndex := 52, attributes := #[] }] 49 8 #[] #[{ accessFlags := 26, nameIndex := 5, descriptorIndex := 6, attributes := #[] }, { accessFlags := 18, nameIndex := 15, descriptorIndex := 16, attributes := #[] }])
  fields := #[{ name := "EMPTY", type := (.object "java/util/Optional"), accessFlags := 26, slot := 0, constantValue := 0 }, { name := "value", type := (.object "java/lang/Object"), accessFlags := 18, slot := 0, constantValue := 0 }]
  methods := #[k12m0, k12m1, k12m2, k12m3, k12m4, k12m5]
  instanceTypes := #[(.object "java/lang/Object")]
  staticTypes := #[(.object "java/util/Optional")]
  resolved := Array.replicate 187 none
  statics := some 1 }

def pool13 : Array CpInfo := pool [(2, .class_ 4), (1, u "java/lang/Object"), (0, u "<init>"), (0, u "()V"), (35, .class_ 44), (1, u "java/util/Objects"), (0, u "requireNonNull"), (0, u "(Ljava/lang/Object;)Ljava/lang/Object;"), (47, u "(Ljava/lang/Object;Ljava/lang/String;)Ljava/lang/Object;")] 89

def k13m0 : Method := { name := "<init>", desc := "()V", sig := { parameters := [], returnType := none }, accessFlags := 2, code := none }
def k13c1 : Code := { maxStack := 2, maxLocals := 1, code := jdk_31_method_10_code, exceptionTable := #[], attributes := #[] }
def k13m1 : Method := { name := "requireNonNull", desc := "(Ljava/lang/Object;)Ljava/lang/Object;", sig := { parameters := [(.object "java/lang/Object")], returnType := some (.object "java/lang/Object") }, accessFlags := 9, code := some k13c1 }
def k13c2 : Code := { maxStack := 3, maxLocals := 2, code := jdk_31_method_11_code, exceptionTable := #[], attributes := #[] }
def k13m2 : Method := { name := "requireNonNull", desc := "(Ljava/lang/Object;Ljava/lang/String;)Ljava/lang/Object;", sig := { parameters := [(.object "java/lang/Object"), (.object "java/lang/String")], returnType := some (.object "java/lang/Object") }, accessFlags := 9, code := some k13c2 }
/-- java/util/Objects -/
def k13 : Class := { plain "java/util/Objects" (some 0) with
  accessFlags := 49
  interfaces := #[]
  cf := some (fileOf pool13 42 #[] #[{ accessFlags := 2, nameIndex := 5, descriptorIndex := 6, attributes := #[] }, { accessFlags := 9, nameIndex := 45, descriptorIndex := 46, attributes := #[] }, { accessFlags := 9, nameIndex := 45, descriptorIndex := 94, attributes := #[] }] 49 2 #[] #[])
  fields := #[]
  methods := #[k13m0, k13m1, k13m2]
  instanceTypes := #[]
  staticTypes := #[]
  resolved := Array.replicate 184 none
  statics := none }

def pool14 : Array CpInfo := pool [(6, u "(Ljava/lang/Object;)Ljava/lang/Object;"), (2, u "apply"), (6, .class_ 18), (1, u "java/util/function/Function"), (0, .class_ 20), (0, u "java/lang/Object")] 56

def k14m0 : Method := { name := "apply", desc := "(Ljava/lang/Object;)Ljava/lang/Object;", sig := { parameters := [(.object "java/lang/Object")], returnType := some (.object "java/lang/Object") }, accessFlags := 1025, code := none }
/-- java/util/function/Function -/
def k14 : Class := { plain "java/util/function/Function" (some 0) with
  accessFlags := 1537
  interfaces := #[]
  cf := some (fileOf pool14 16 #[] #[{ accessFlags := 1025, nameIndex := 9, descriptorIndex := 6, attributes := #[] }] 1537 19 #[] #[])
  fields := #[]
  methods := #[k14m0]
  instanceTypes := #[]
  staticTypes := #[]
  resolved := Array.replicate 77 none
  statics := none }

def pool15 : Array CpInfo := pool [(2, .class_ 4), (1, u "java/lang/Object"), (3, .class_ 10), (1, u "com/example/stairwell/stairwell/core/Version"), (0, u "text"), (0, u "Ljava/lang/String;"), (2, u "numbers"), (0, u "Ljava/util/List;"), (9, u "FORM"), (0, u "Ljava/util/regex/Pattern;"), (106, .class_ 135), (0, u "java/lang/Comparable"), (10, u "toString"), (0, u "()Ljava/lang/String;")] 21

def k15c0 : Code := { maxStack := 1, maxLocals := 1, code := ⟨#[0x2a, 0xb4, 0x00, 0x07, 0xb0]⟩, exceptionTable := #[], attributes := #[] }
def k15m0 : Method := { name := "toString", desc := "()Ljava/lang/String;", sig := { parameters := [], returnType := some (.object "java/lang/String") }, accessFlags := 1, code := some k15c0 }
/-- com/example/stairwell/stairwell/core/Version -/
def k15 : Class := { plain "com/example/stairwell/stairwell/core/Version" (some 0) with
  accessFlags := 49
  interfaces := #[3]
  cf := some (fileOf pool15 8 #[] #[{ accessFlags := 1, nameIndex := 146, descriptorIndex := 147, attributes := #[] }] 49 2 #[134] #[{ accessFlags := 26, nameIndex := 26, descriptorIndex := 27, attributes := #[] }, { accessFlags := 18, nameIndex := 11, descriptorIndex := 12, attributes := #[] }, { accessFlags := 18, nameIndex := 15, descriptorIndex := 16, attributes := #[] }])
  fields := #[{ name := "FORM", type := (.object "java/util/regex/Pattern"), accessFlags := 26, slot := 0, constantValue := 0 }, { name := "text", type := (.object "java/lang/String"), accessFlags := 18, slot := 0, constantValue := 0 }, { name := "numbers", type := (.object "java/util/List"), accessFlags := 18, slot := 1, constantValue := 0 }]
  methods := #[k15m0]
  instanceTypes := #[(.object "java/lang/String"), (.object "java/util/List")]
  staticTypes := #[(.object "java/util/regex/Pattern")]
  resolved := Array.replicate 169 none
  statics := none }

def pool16 : Array CpInfo := pool [(2, .class_ 4), (1, u "java/lang/Object"), (3, .class_ 10), (1, u "java/lang/Boolean"), (0, u "value"), (0, u "Z"), (16, u "TRUE"), (0, u "Ljava/lang/Boolean;"), (2, u "FALSE"), (24, u "compare"), (0, u "(ZZ)I"), (27, u "TYPE"), (0, u "Ljava/lang/Class;"), (0, .class_ 90), (0, u "java/io/Serializable"), (0, .class_ 92), (0, u "java/lang/Comparable"), (0, .class_ 94), (0, u "java/lang/constant/Constable"), (2, u "serialVersionUID"), (0, u "J")] 53

def k16c0 : Code := { maxStack := 2, maxLocals := 2, code := jdk_2055_method_14_code, exceptionTable := #[], attributes := #[] }
def k16m0 : Method := { name := "compare", desc := "(ZZ)I", sig := { parameters := [.boolean, .boolean], returnType := some .int }, accessFlags := 9, code := some k16c0 }
/-- java/lang/Boolean -/
def k16 : Class := { plain "java/lang/Boolean" (some 0) with
  accessFlags := 49
  interfaces := #[2, 3, 5]
  cf := some (fileOf pool16 8 #[] #[{ accessFlags := 9, nameIndex := 58, descriptorIndex := 59, attributes := #[] }] 49 2 #[89, 91, 93] #[{ accessFlags := 25, nameIndex := 29, descriptorIndex := 30, attributes := #[] }, { accessFlags := 25, nameIndex := 33, descriptorIndex := 30, attributes := #[] }, { accessFlags := 25, nameIndex := 87, descriptorIndex := 88, attributes := #[] }, { accessFlags := 18, nameIndex := 11, descriptorIndex := 12, attributes := #[] }, { accessFlags := 26, nameIndex := 97, descriptorIndex := 98, attributes := #[] }])
  fields := #[{ name := "TRUE", type := (.object "java/lang/Boolean"), accessFlags := 25, slot := 0, constantValue := 0 }, { name := "FALSE", type := (.object "java/lang/Boolean"), accessFlags := 25, slot := 1, constantValue := 0 }, { name := "TYPE", type := (.object "java/lang/Class"), accessFlags := 25, slot := 2, constantValue := 0 }, { name := "value", type := .boolean, accessFlags := 18, slot := 0, constantValue := 0 }, { name := "serialVersionUID", type := .long, accessFlags := 26, slot := 3, constantValue := 0 }]
  methods := #[k16m0]
  instanceTypes := #[.boolean]
  staticTypes := #[(.object "java/lang/Boolean"), (.object "java/lang/Boolean"), (.object "java/lang/Class"), .long]
  resolved := Array.replicate 152 none
  statics := none }

def pool17 : Array CpInfo := pool [(1, .class_ 2), (0, u "java/lang/Math"), (1, .class_ 6), (1, u "java/lang/Object"), (0, u "<init>"), (0, u "()V"), (89, .class_ 100), (1, u "java/lang/Math$RandomNumberGeneratorHolder"), (71, u "negativeZeroFloatBits"), (0, u "J"), (2, u "negativeZeroDoubleBits"), (24, u "min"), (43, u "$assertionsDisabled"), (0, u "Z"), (88, u "(II)I"), (2, u "twoToTheDoubleScaleDown"), (0, u "D"), (4, u "twoToTheDoubleScaleUp"), (9, u "E"), (3, u "PI"), (2, u "TAU"), (2, u "DEGREES_TO_RADIANS"), (0, u "RADIANS_TO_DEGREES")] 94

def k17m0 : Method := { name := "<init>", desc := "()V", sig := { parameters := [], returnType := none }, accessFlags := 2, code := none }
def k17c1 : Code := { maxStack := 2, maxLocals := 2, code := jdk_29_method_69_code, exceptionTable := #[], attributes := #[] }
def k17m1 : Method := { name := "min", desc := "(II)I", sig := { parameters := [.int, .int], returnType := some .int }, accessFlags := 9, code := some k17c1 }
/-- java/lang/Math -/
def k17 : Class := { plain "java/lang/Math" (some 0) with
  accessFlags := 49
  interfaces := #[]
  cf := some (fileOf pool17 1 #[.nestMembers #[98]] #[{ accessFlags := 2, nameIndex := 7, descriptorIndex := 8, attributes := #[] }, { accessFlags := 9, nameIndex := 201, descriptorIndex := 335, attributes := #[] }] 49 4 #[] #[{ accessFlags := 25, nameIndex := 354, descriptorIndex := 339, attributes := #[] }, { accessFlags := 25, nameIndex := 358, descriptorIndex := 339, attributes := #[] }, { accessFlags := 25, nameIndex := 361, descriptorIndex := 339, attributes := #[] }, { accessFlags := 26, nameIndex := 364, descriptorIndex := 339, attributes := #[] }, { accessFlags := 26, nameIndex := 365, descriptorIndex := 339, attributes := #[] }, { accessFlags := 26, nameIndex := 172, descriptorIndex := 173, attributes := #[] }, { accessFlags := 26, nameIndex := 176, descriptorIndex := 173, attributes := #[] }, { accessFlags := 8, nameIndex := 344, descriptorIndex := 339, attributes := #[] }, { accessFlags := 8, nameIndex := 338, descriptorIndex := 339, attributes := #[] }, { accessFlags := 4120, nameIndex := 245, descriptorIndex := 246, attributes := #[] }])
  fields := #[{ name := "E", type := .double, accessFlags := 25, slot := 0, constantValue := 0 }, { name := "PI", type := .double, accessFlags := 25, slot := 1, constantValue := 0 }, { name := "TAU", type := .double, accessFlags := 25, slot := 2, constantValue := 0 }, { name := "DEGREES_TO_RADIANS", type := .double, accessFlags := 26, slot := 3, constantValue := 0 }, { name := "RADIANS_TO_DEGREES", type := .double, accessFlags := 26, slot := 4, constantValue := 0 }, { name := "negativeZeroFloatBits", type := .long, accessFlags := 26, slot := 5, constantValue := 0 }, { name := "negativeZeroDoubleBits", type := .long, accessFlags := 26, slot := 6, constantValue := 0 }, { name := "twoToTheDoubleScaleUp", type := .double, accessFlags := 8, slot := 7, constantValue := 0 }, { name := "twoToTheDoubleScaleDown", type := .double, accessFlags := 8, slot := 8, constantValue := 0 }, { name := "$assertionsDisabled", type := .boolean, accessFlags := 4120, slot := 9, constantValue := 0 }]
  methods := #[k17m0, k17m1]
  instanceTypes := #[]
  staticTypes := #[.double, .double, .double, .double, .double, .long, .long, .double, .double, .boolean]
  resolved := Array.replicate 460 none
  statics := none }

def pool18 : Array CpInfo := pool [(9, u "<init>"), (6, .class_ 18), (1, u "java/lang/Object"), (0, u "()V"), (1, .class_ 23), (1, u "jdk/internal/util/ArraysSupport"), (0, u "LOG2_ARRAY_LONG_INDEX_SCALE"), (0, u "I"), (2, u "U"), (0, u "Ljdk/internal/misc/Unsafe;"), (8, u "BIG_ENDIAN"), (0, u "Z"), (8, u "LOG2_BYTE_BIT_SIZE"), (4, u "LOG2_ARRAY_INT_INDEX_SCALE"), (54, u "JLA"), (0, u "Ljdk/internal/access/JavaLangAccess;"), (11, u "LOG2_ARRAY_BOOLEAN_INDEX_SCALE"), (9, u "LOG2_ARRAY_BYTE_INDEX_SCALE"), (5, u "LOG2_ARRAY_CHAR_INDEX_SCALE"), (5, u "LOG2_ARRAY_SHORT_INDEX_SCALE"), (5, u "mismatch"), (12, u "LOG2_ARRAY_FLOAT_INDEX_SCALE"), (24, u "LOG2_ARRAY_DOUBLE_INDEX_SCALE"), (89, u "T_BOOLEAN"), (2, u "T_CHAR"), (1, u "T_FLOAT"), (1, u "T_DOUBLE"), (1, u "T_BYTE"), (1, u "T_SHORT"), (1, u "T_INT"), (1, u "T_LONG"), (1, u "SOFT_MAX_ARRAY_LENGTH"), (41, u "([B[BI)I")] 41

def k18m0 : Method := { name := "<init>", desc := "()V", sig := { parameters := [], returnType := none }, accessFlags := 2, code := none }
def k18c1 : Code := { maxStack := 8, maxLocals := 4, code := jdk_48_method_13_code, exceptionTable := #[], attributes := #[] }
def k18m1 : Method := { name := "mismatch", desc := "([B[BI)I", sig := { parameters := [(.array .byte), (.array .byte), .int], returnType := some .int }, accessFlags := 9, code := some k18c1 }
/-- jdk/internal/util/ArraysSupport -/
def k18 : Class := { plain "jdk/internal/util/ArraysSupport" (some 0) with
  accessFlags := 33
  interfaces := #[]
  cf := some (fileOf pool18 21 #[] #[{ accessFlags := 2, nameIndex := 9, descriptorIndex := 19, attributes := #[] }, { accessFlags := 9, nameIndex := 149, descriptorIndex := 336, attributes := #[] }] 33 16 #[] #[{ accessFlags := 24, nameIndex := 28, descriptorIndex := 29, attributes := #[] }, { accessFlags := 26, nameIndex := 38, descriptorIndex := 39, attributes := #[] }, { accessFlags := 25, nameIndex := 121, descriptorIndex := 25, attributes := #[] }, { accessFlags := 25, nameIndex := 131, descriptorIndex := 25, attributes := #[] }, { accessFlags := 25, nameIndex := 137, descriptorIndex := 25, attributes := #[] }, { accessFlags := 25, nameIndex := 143, descriptorIndex := 25, attributes := #[] }, { accessFlags := 25, nameIndex := 53, descriptorIndex := 25, attributes := #[] }, { accessFlags := 25, nameIndex := 24, descriptorIndex := 25, attributes := #[] }, { accessFlags := 25, nameIndex := 162, descriptorIndex := 25, attributes := #[] }, { accessFlags := 25, nameIndex := 187, descriptorIndex := 25, attributes := #[] }, { accessFlags := 26, nameIndex := 48, descriptorIndex := 25, attributes := #[] }, { accessFlags := 25, nameIndex := 277, descriptorIndex := 25, attributes := #[] }, { accessFlags := 25, nameIndex := 280, descriptorIndex := 25, attributes := #[] }, { accessFlags := 25, nameIndex := 282, descriptorIndex := 25, attributes := #[] }, { accessFlags := 25, nameIndex := 284, descriptorIndex := 25, attributes := #[] }, { accessFlags := 25, nameIndex := 286, descriptorIndex := 25, attributes := #[] }, { accessFlags := 25, nameIndex := 288, descriptorIndex := 25, attributes := #[] }, { accessFlags := 25, nameIndex := 290, descriptorIndex := 25, attributes := #[] }, { accessFlags := 25, nameIndex := 292, descriptorIndex := 25, attributes := #[] }, { accessFlags := 26, nameIndex := 108, descriptorIndex := 109, attributes := #[] }, { accessFlags := 25, nameIndex := 294, descriptorIndex := 25, attributes := #[] }])
  fields := #[{ name := "U", type := (.object "jdk/internal/misc/Unsafe"), accessFlags := 24, slot := 0, constantValue := 0 }, { name := "BIG_ENDIAN", type := .boolean, accessFlags := 26, slot := 1, constantValue := 0 }, { name := "LOG2_ARRAY_BOOLEAN_INDEX_SCALE", type := .int, accessFlags := 25, slot := 2, constantValue := 0 }, { name := "LOG2_ARRAY_BYTE_INDEX_SCALE", type := .int, accessFlags := 25, slot := 3, constantValue := 0 }, { name := "LOG2_ARRAY_CHAR_INDEX_SCALE", type := .int, accessFlags := 25, slot := 4, constantValue := 0 }, { name := "LOG2_ARRAY_SHORT_INDEX_SCALE", type := .int, accessFlags := 25, slot := 5, constantValue := 0 }, { name := "LOG2_ARRAY_INT_INDEX_SCALE", type := .int, accessFlags := 25, slot := 6, constantValue := 0 }, { name := "LOG2_ARRAY_LONG_INDEX_SCALE", type := .int, accessFlags := 25, slot := 7, constantValue := 0 }, { name := "LOG2_ARRAY_FLOAT_INDEX_SCALE", type := .int, accessFlags := 25, slot := 8, constantValue := 0 }, { name := "LOG2_ARRAY_DOUBLE_INDEX_SCALE", type := .int, accessFlags := 25, slot := 9, constantValue := 0 }, { name := "LOG2_BYTE_BIT_SIZE", type := .int, accessFlags := 26, slot := 10, constantValue := 0 }, { name := "T_BOOLEAN", type := .int, accessFlags := 25, slot := 11, constantValue := 0 }, { name := "T_CHAR", type := .int, accessFlags := 25, slot := 12, constantValue := 0 }, { name := "T_FLOAT", type := .int, accessFlags := 25, slot := 13, constantValue := 0 }, { name := "T_DOUBLE", type := .int, accessFlags := 25, slot := 14, constantValue := 0 }, { name := "T_BYTE", type := .int, accessFlags := 25, slot := 15, constantValue := 0 }, { name := "T_SHORT", type := .int, accessFlags := 25, slot := 16, constantValue := 0 }, { name := "T_INT", type := .int, accessFlags := 25, slot := 17, constantValue := 0 }, { name := "T_LONG", type := .int, accessFlags := 25, slot := 18, constantValue := 0 }, { name := "JLA", type := (.object "jdk/internal/access/JavaLangAccess"), accessFlags := 26, slot := 19, constantValue := 0 }, { name := "SOFT_MAX_ARRAY_LENGTH", type := .int, accessFlags := 25, slot := 20, constantValue := 0 }]
  methods := #[k18m0, k18m1]
  instanceTypes := #[]
  staticTypes := #[(.object "jdk/internal/misc/Unsafe"), .boolean, .int, .int, .int, .int, .int, .int, .int, .int, .int, .int, .int, .int, .int, .int, .int, .int, .int, (.object "jdk/internal/access/JavaLangAccess"), .int]
  resolved := Array.replicate 378 none
  statics := none }

def pool19 : Array CpInfo := pool [(2, .class_ 4), (1, u "java/lang/Object"), (0, u "<init>"), (0, u "()V"), (17, .class_ 26), (1, u "jdk/internal/util/Preconditions"), (28, .class_ 56), (0, u "jdk/internal/util/Preconditions$4"), (57, .class_ 115), (0, u "jdk/internal/util/Preconditions$1"), (7, u "SIOOBE_FORMATTER"), (0, u "Ljava/util/function/BiFunction;"), (0, .class_ 126), (0, u "jdk/internal/util/Preconditions$2"), (3, u "AIOOBE_FORMATTER"), (0, .class_ 132), (0, u "jdk/internal/util/Preconditions$3"), (3, u "IOOBE_FORMATTER")] 57

def k19m0 : Method := { name := "<init>", desc := "()V", sig := { parameters := [], returnType := none }, accessFlags := 1, code := none }
/-- jdk/internal/util/Preconditions -/
def k19 : Class := { plain "jdk/internal/util/Preconditions" (some 0) with
  accessFlags := 33
  interfaces := #[]
  cf := some (fileOf pool19 24 #[.nestMembers #[55, 131, 125, 114]] #[{ accessFlags := 1, nameIndex := 5, descriptorIndex := 6, attributes := #[] }] 33 2 #[] #[{ accessFlags := 25, nameIndex := 123, descriptorIndex := 124, attributes := #[] }, { accessFlags := 25, nameIndex := 130, descriptorIndex := 124, attributes := #[] }, { accessFlags := 25, nameIndex := 136, descriptorIndex := 124, attributes := #[] }])
  fields := #[{ name := "SIOOBE_FORMATTER", type := (.object "java/util/function/BiFunction"), accessFlags := 25, slot := 0, constantValue := 0 }, { name := "AIOOBE_FORMATTER", type := (.object "java/util/function/BiFunction"), accessFlags := 25, slot := 1, constantValue := 0 }, { name := "IOOBE_FORMATTER", type := (.object "java/util/function/BiFunction"), accessFlags := 25, slot := 2, constantValue := 0 }]
  methods := #[k19m0]
  instanceTypes := #[]
  staticTypes := #[(.object "java/util/function/BiFunction"), (.object "java/util/function/BiFunction"), (.object "java/util/function/BiFunction")]
  resolved := Array.replicate 194 none
  statics := some 2 }

def pool20 : Array CpInfo := pool [(1, u "java/lang/Cloneable"), (0, .class_ 1), (0, u "java/lang/Object"), (0, .class_ 3)] 3

/-- java/lang/Cloneable -/
def k20 : Class := { plain "java/lang/Cloneable" (some 0) with
  accessFlags := 1537
  interfaces := #[]
  cf := some (fileOf pool20 2 #[] #[] 1537 4 #[] #[])
  fields := #[]
  methods := #[]
  instanceTypes := #[]
  staticTypes := #[]
  resolved := Array.replicate 8 none
  statics := none }

/-- the primitive byte -/
def k21 : Class := { plain "byte" none with kind := .primitive 'B', accessFlags := 0x411 }
/-- [B -/
def k22 : Class := { plain "[B" (some 0) with kind := .array 21 .byte, interfaces := #[20, 2], accessFlags := 1041 }

/-- the primitive char -/
def k23 : Class := { plain "char" none with kind := .primitive 'C', accessFlags := 0x411 }
/-- [C -/
def k24 : Class := { plain "[C" (some 0) with kind := .array 23 .char, interfaces := #[20, 2], accessFlags := 1041 }

/-- the primitive int -/
def k25 : Class := { plain "int" none with kind := .primitive 'I', accessFlags := 0x411 }
/-- [I -/
def k26 : Class := { plain "[I" (some 0) with kind := .array 25 .int, interfaces := #[20, 2], accessFlags := 1041 }

def classes0 : Array Class := #[k0, k1, k2, k3, k4, k5, k6, k7, k8, k9, k10, k11, k12, k13, k14, k15, k16, k17, k18, k19, k20, k21, k22, k23, k24, k25, k26]
/-- the class that the rule has made for the site at 4 of com/example/stairwell/stairwell/core/Step.writtenVersion -/
def k27 : Class := Jvm.LamKit.madeRec { classes := classes0 } "com/example/stairwell/stairwell/core/Step" (Jvm.Lambda.Shape.mk "java/util/function/Function" "apply" (Jvm.ClassFile.MethodDescriptor.mk ([(Jvm.ClassFile.FieldType.object "java/lang/Object")] : List Jvm.ClassFile.FieldType) (Option.some (Jvm.ClassFile.FieldType.object "java/lang/Object"))) ([] : List Jvm.ClassFile.FieldType) (5 : Nat) "com/example/stairwell/stairwell/core/Version" "toString" (Jvm.ClassFile.MethodDescriptor.mk ([] : List Jvm.ClassFile.FieldType) (Option.some (Jvm.ClassFile.FieldType.object "java/lang/String"))) false (Jvm.ClassFile.MethodDescriptor.mk ([(Jvm.ClassFile.FieldType.object "com/example/stairwell/stairwell/core/Version")] : List Jvm.ClassFile.FieldType) (Option.some (Jvm.ClassFile.FieldType.object "java/lang/String")))) 27

def heap : Heap := #[{ cls := 7, slots := #[.long 0, .int 1, .null, .int 0, .null, .int 0, .int 0], vm := .statics 7 },
  { cls := 12, slots := #[.ref 4], vm := .statics 12 },
  { cls := 19, slots := #[.null, .null, .null], vm := .statics 19 },
  { cls := 27, slots := #[], vm := .none },
  { cls := 12, slots := #[.null], vm := .none }]
def classes : Array Class := #[k0, k1, k2, k3, k4, k5, k6, k7, k8, k9, k10, k11, k12, k13, k14, k15, k16, k17, k18, k19, k20, k21, k22, k23, k24, k25, k26, k27]
def interned : List (Array UInt16 × Addr) := []
def slotsUsed : Nat := 12
def theMethod : MethodId := ⟨1, 2⟩
def args0 : Array Value := #[.int 5, .int 5, .int 5]
def aboutOver (below : List Frame) : State where
  vm := { classes := classes, interned := interned.toArray }
  heap := heap
  slotsUsed := slotsUsed
  threads := #[{ frames := .invoking theMethod args0 :: below }]
def below0 : List Frame := [.native { method := ⟨0, 0⟩, args := #[] }]
def about1 : State := aboutOver below0
def p0 : Program := .bare "" "" ""
def e0 : Env := launch0.env 0 0 0
theorem w_frames : about1.frames = Frame.invoking theMethod args0 :: below0 := rfl
set_option maxRecDepth 65536 in
theorem w_args : argsFit about1.vm theMethod args0 = true := by decide +kernel
set_option maxRecDepth 65536 in
theorem w_heap : heapFits about1 = true := by decide +kernel
set_option maxRecDepth 65536 in
theorem w_runnable : about1.curStatus? = some .runnable := by decide +kernel
set_option maxRecDepth 65536 in
theorem w_alone : about1.alone = true := by decide +kernel
set_option maxRecDepth 65536 in
theorem w_named : about1.methodNamed? x = some theMethod := by decide +kernel
set_option maxRecDepth 65536 in
theorem w_hears : about1.hears theMethod below0 = true := by decide +kernel
set_option maxRecDepth 65536 in
theorem w_ripe : about1.ripe theMethod args0 below0 = true := by decide +kernel
theorem w_running : about1.status = .running := rfl
set_option maxRecDepth 65536 in
theorem w_room : about1.hasRoom e0.platform room_1 = true :=
  launch0.hasRoom_least _ room_1 (by decide +kernel) (by decide +kernel) (by decide +kernel) (by decide +kernel) (by decide +kernel) (by decide +kernel)
theorem allAtoms_all (ts : List Jvm.Cond) (a : Array Jvm.Value) (st : Jvm.State) : (allAtoms ts).before a st = ts.all (fun c => c.before a st) := by
  induction ts with
  | nil => rfl
  | cons c t ih =>
    show (Jvm.Cond.and c (allAtoms t)).before a st = _
    rw [Jvm.Cond.before_and, ih, List.all_cons]
def words1 : List Jvm.Cond := Jvm.Cond.code x code maxLocals ret :: tables_1
/-- a 'code' word, met by the world's own term for the bytes: nothing is compared byte by byte -/
theorem code_word {y : MethodName} {bytes : ByteArray} {mx : Nat} {rt : Option FieldType} {a : Array Value} {s : State} {m : MethodId} {meth : Method} {c : Code} (h1 : s.methodNamed? y = some m) (h2 : s.vm.method? m = some meth) (h3 : meth.code = some c) (h4 : c.code = bytes)
    (h5 : (c.maxLocals == mx && c.exceptionTable.isEmpty && decide (c.maxStack ≤ mostOperands) && decide (meth.sig.returnType = rt) && !meth.locks && decide (parseMethodDescriptor y.desc = some meth.sig)) = true) : (Jvm.Cond.code y bytes mx rt).before a s = true := by
  simp only [Bool.and_eq_true, beq_iff_eq, Bool.not_eq_true', decide_eq_true_eq] at h5
  obtain ⟨⟨⟨⟨⟨g1, g2⟩, g3⟩, g4⟩, g5⟩, g6⟩ := h5
  simp [Cond.before, Cond.holds, Cond.value, h1, h2, h3, h4, g1, g2, g3, g4, g5, g6]
def isCode : Jvm.Cond → Bool
  | .code _ _ _ _ => true
  | _ => false
theorem all_split {L : List Jvm.Cond} {P : Jvm.Cond → Bool} (h1 : L.all (fun c => isCode c || P c) = true) (h2 : ∀ c ∈ L.filter isCode, P c = true) : L.all P = true := by
  refine List.all_eq_true.mpr fun c hc => ?_
  have h := List.all_eq_true.mp h1 c hc
  rcases Bool.eq_false_or_eq_true (isCode c) with hi | hi
  · exact h2 c (List.mem_filter.mpr ⟨hc, hi⟩)
  · simpa [hi] using h
set_option maxRecDepth 65536 in
theorem w_c0 : (Jvm.Cond.code x code maxLocals ret).before args0 about1 = true := code_word (m := ⟨1, 2⟩) (meth := k1m2) (c := k1c2) (by decide +kernel) rfl rfl rfl (by decide +kernel)
set_option maxRecDepth 65536 in
theorem w_c1 : (Jvm.Cond.code ({ cls := "com/example/stairwell/stairwell/core/StepRepeatablePinLaw", name := "mk", desc := "(II)Ljava/lang/String;" } : Jvm.MethodName) method_2_code (5 : Nat) (Option.some (Jvm.ClassFile.FieldType.object "java/lang/String"))).before args0 about1 = true := code_word (m := ⟨1, 1⟩) (meth := k1m1) (c := k1c1) (by decide +kernel) rfl rfl rfl (by decide +kernel)
set_option maxRecDepth 65536 in
theorem w_c2 : (Jvm.Cond.code ({ cls := "java/lang/String", name := "<init>", desc := "([C)V" } : Jvm.MethodName) jdk_42_method_3_code (2 : Nat) (Option.none : Option Jvm.ClassFile.FieldType)).before args0 about1 = true := code_word (m := ⟨7, 1⟩) (meth := k7m1) (c := k7c1) (by decide +kernel) rfl rfl rfl (by decide +kernel)
set_option maxRecDepth 65536 in
theorem w_c3 : (Jvm.Cond.code ({ cls := "java/lang/String", name := "<init>", desc := "([CIILjava/lang/Void;)V" } : Jvm.MethodName) jdk_42_method_149_code (6 : Nat) (Option.none : Option Jvm.ClassFile.FieldType)).before args0 about1 = true := code_word (m := ⟨7, 4⟩) (meth := k7m4) (c := k7c4) (by decide +kernel) rfl rfl rfl (by decide +kernel)
set_option maxRecDepth 65536 in
theorem w_c4 : (Jvm.Cond.code ({ cls := "java/lang/Object", name := "<init>", desc := "()V" } : Jvm.MethodName) object_method_1_code (1 : Nat) (Option.none : Option Jvm.ClassFile.FieldType)).before args0 about1 = true := code_word (m := ⟨0, 0⟩) (meth := k0m0) (c := k0c0) (by decide +kernel) rfl rfl rfl (by decide +kernel)
set_option maxRecDepth 65536 in
theorem w_c5 : (Jvm.Cond.code ({ cls := "java/lang/StringUTF16", name := "compress", desc := "([CII)[B" } : Jvm.MethodName) jdk_52_method_16_code (6 : Nat) (Option.some (Jvm.ClassFile.FieldType.array Jvm.ClassFile.FieldType.byte))).before args0 about1 = true := code_word (m := ⟨8, 2⟩) (meth := k8m2) (c := k8c2) (by decide +kernel) rfl rfl rfl (by decide +kernel)
set_option maxRecDepth 65536 in
theorem w_c6 : (Jvm.Cond.code ({ cls := "java/lang/StringUTF16", name := "compress", desc := "([CI[BII)I" } : Jvm.MethodName) jdk_52_method_21_code (7 : Nat) (Option.some Jvm.ClassFile.FieldType.int)).before args0 about1 = true := code_word (m := ⟨8, 3⟩) (meth := k8m3) (c := k8c3) (by decide +kernel) rfl rfl rfl (by decide +kernel)
set_option maxRecDepth 65536 in
theorem w_c7 : (Jvm.Cond.code ({ cls := "java/lang/StringUTF16", name := "coderFromArrayLen", desc := "([BI)B" } : Jvm.MethodName) jdk_52_method_15_code (2 : Nat) (Option.some Jvm.ClassFile.FieldType.byte)).before args0 about1 = true := code_word (m := ⟨8, 1⟩) (meth := k8m1) (c := k8c1) (by decide +kernel) rfl rfl rfl (by decide +kernel)
set_option maxRecDepth 65536 in
theorem w_c8 : (Jvm.Cond.code ({ cls := "java/lang/String", name := "equals", desc := "(Ljava/lang/Object;)Z" } : Jvm.MethodName) jdk_42_method_66_code (3 : Nat) (Option.some Jvm.ClassFile.FieldType.boolean)).before args0 about1 = true := code_word (m := ⟨7, 2⟩) (meth := k7m2) (c := k7c2) (by decide +kernel) rfl rfl rfl (by decide +kernel)
set_option maxRecDepth 65536 in
theorem w_c9 : (Jvm.Cond.code ({ cls := "java/lang/StringLatin1", name := "equals", desc := "([B[B)Z" } : Jvm.MethodName) jdk_43_method_13_code (3 : Nat) (Option.some Jvm.ClassFile.FieldType.boolean)).before args0 about1 = true := code_word (m := ⟨9, 1⟩) (meth := k9m1) (c := k9c1) (by decide +kernel) rfl rfl rfl (by decide +kernel)
set_option maxRecDepth 65536 in
theorem w_c10 : (Jvm.Cond.code ({ cls := "com/example/stairwell/stairwell/core/Step", name := "repeatable", desc := "(Ljava/lang/String;)Lcom/example/stairwell/stairwell/core/Step;" } : Jvm.MethodName) prog_21_method_3_code (1 : Nat) (Option.some (Jvm.ClassFile.FieldType.object "com/example/stairwell/stairwell/core/Step"))).before args0 about1 = true := code_word (m := ⟨11, 1⟩) (meth := k11m1) (c := k11c1) (by decide +kernel) rfl rfl rfl (by decide +kernel)
set_option maxRecDepth 65536 in
theorem w_c11 : (Jvm.Cond.code ({ cls := "java/util/Optional", name := "empty", desc := "()Ljava/util/Optional;" } : Jvm.MethodName) jdk_32_method_1_code (1 : Nat) (Option.some (Jvm.ClassFile.FieldType.object "java/util/Optional"))).before args0 about1 = true := code_word (m := ⟨12, 0⟩) (meth := k12m0) (c := k12c0) (by decide +kernel) rfl rfl rfl (by decide +kernel)
set_option maxRecDepth 65536 in
theorem w_c12 : (Jvm.Cond.code ({ cls := "com/example/stairwell/stairwell/core/Step", name := "<init>", desc := "(Ljava/util/Optional;Ljava/lang/String;)V" } : Jvm.MethodName) prog_21_method_1_code (3 : Nat) (Option.none : Option Jvm.ClassFile.FieldType)).before args0 about1 = true := code_word (m := ⟨11, 0⟩) (meth := k11m0) (c := k11c0) (by decide +kernel) rfl rfl rfl (by decide +kernel)
set_option maxRecDepth 65536 in
theorem w_c13 : (Jvm.Cond.code ({ cls := "java/lang/Record", name := "<init>", desc := "()V" } : Jvm.MethodName) jdk_30_method_1_code (1 : Nat) (Option.none : Option Jvm.ClassFile.FieldType)).before args0 about1 = true := code_word (m := ⟨10, 0⟩) (meth := k10m0) (c := k10c0) (by decide +kernel) rfl rfl rfl (by decide +kernel)
set_option maxRecDepth 65536 in
theorem w_c14 : (Jvm.Cond.code ({ cls := "java/util/Objects", name := "requireNonNull", desc := "(Ljava/lang/Object;Ljava/lang/String;)Ljava/lang/Object;" } : Jvm.MethodName) jdk_31_method_11_code (2 : Nat) (Option.some (Jvm.ClassFile.FieldType.object "java/lang/Object"))).before args0 about1 = true := code_word (m := ⟨13, 2⟩) (meth := k13m2) (c := k13c2) (by decide +kernel) rfl rfl rfl (by decide +kernel)
set_option maxRecDepth 65536 in
theorem w_c15 : (Jvm.Cond.code ({ cls := "com/example/stairwell/stairwell/core/Step", name := "isRepeatable", desc := "()Z" } : Jvm.MethodName) prog_21_method_5_code (1 : Nat) (Option.some Jvm.ClassFile.FieldType.boolean)).before args0 about1 = true := code_word (m := ⟨11, 2⟩) (meth := k11m2) (c := k11c2) (by decide +kernel) rfl rfl rfl (by decide +kernel)
set_option maxRecDepth 65536 in
theorem w_c16 : (Jvm.Cond.code ({ cls := "java/util/Optional", name := "isEmpty", desc := "()Z" } : Jvm.MethodName) jdk_32_method_7_code (1 : Nat) (Option.some Jvm.ClassFile.FieldType.boolean)).before args0 about1 = true := code_word (m := ⟨12, 2⟩) (meth := k12m2) (c := k12c2) (by decide +kernel) rfl rfl rfl (by decide +kernel)
set_option maxRecDepth 65536 in
theorem w_c17 : (Jvm.Cond.code ({ cls := "com/example/stairwell/stairwell/core/Step", name := "name", desc := "()Ljava/lang/String;" } : Jvm.MethodName) prog_21_method_12_code (1 : Nat) (Option.some (Jvm.ClassFile.FieldType.object "java/lang/String"))).before args0 about1 = true := code_word (m := ⟨11, 6⟩) (meth := k11m6) (c := k11c6) (by decide +kernel) rfl rfl rfl (by decide +kernel)
set_option maxRecDepth 65536 in
theorem w_c18 : (Jvm.Cond.code ({ cls := "com/example/stairwell/stairwell/core/Step", name := "writtenVersion", desc := "()Ljava/lang/String;" } : Jvm.MethodName) prog_21_method_6_code (1 : Nat) (Option.some (Jvm.ClassFile.FieldType.object "java/lang/String"))).before args0 about1 = true := code_word (m := ⟨11, 3⟩) (meth := k11m3) (c := k11c3) (by decide +kernel) rfl rfl rfl (by decide +kernel)
set_option maxRecDepth 65536 in
theorem w_c19 : (Jvm.Cond.code ({ cls := "java/util/Optional", name := "map", desc := "(Ljava/util/function/Function;)Ljava/util/Optional;" } : Jvm.MethodName) jdk_32_method_11_code (2 : Nat) (Option.some (Jvm.ClassFile.FieldType.object "java/util/Optional"))).before args0 about1 = true := code_word (m := ⟨12, 3⟩) (meth := k12m3) (c := k12c3) (by decide +kernel) rfl rfl rfl (by decide +kernel)
set_option maxRecDepth 65536 in
theorem w_c20 : (Jvm.Cond.code ({ cls := "java/util/Objects", name := "requireNonNull", desc := "(Ljava/lang/Object;)Ljava/lang/Object;" } : Jvm.MethodName) jdk_31_method_10_code (1 : Nat) (Option.some (Jvm.ClassFile.FieldType.object "java/lang/Object"))).before args0 about1 = true := code_word (m := ⟨13, 1⟩) (meth := k13m1) (c := k13c1) (by decide +kernel) rfl rfl rfl (by decide +kernel)
set_option maxRecDepth 65536 in
theorem w_c21 : (Jvm.Cond.code ({ cls := "java/util/Optional", name := "orElse", desc := "(Ljava/lang/Object;)Ljava/lang/Object;" } : Jvm.MethodName) jdk_32_method_15_code (2 : Nat) (Option.some (Jvm.ClassFile.FieldType.object "java/lang/Object"))).before args0 about1 = true := code_word (m := ⟨12, 4⟩) (meth := k12m4) (c := k12c4) (by decide +kernel) rfl rfl rfl (by decide +kernel)
set_option maxRecDepth 65536 in
theorem w_c22 : (Jvm.Cond.code ({ cls := "com/example/stairwell/stairwell/core/Step", name := "equals", desc := "(Ljava/lang/Object;)Z" } : Jvm.MethodName) prog_21_method_7_code (3 : Nat) (Option.some Jvm.ClassFile.FieldType.boolean)).before args0 about1 = true := code_word (m := ⟨11, 4⟩) (meth := k11m4) (c := k11c4) (by decide +kernel) rfl rfl rfl (by decide +kernel)
set_option maxRecDepth 65536 in
theorem w_c23 : (Jvm.Cond.code ({ cls := "java/util/Optional", name := "equals", desc := "(Ljava/lang/Object;)Z" } : Jvm.MethodName) jdk_32_method_19_code (3 : Nat) (Option.some Jvm.ClassFile.FieldType.boolean)).before args0 about1 = true := code_word (m := ⟨12, 5⟩) (meth := k12m5) (c := k12c5) (by decide +kernel) rfl rfl rfl (by decide +kernel)
set_option maxRecDepth 65536 in
theorem w_c24 : (Jvm.Cond.code ({ cls := "com/example/stairwell/stairwell/core/Step", name := "compareTo", desc := "(Lcom/example/stairwell/stairwell/core/Step;)I" } : Jvm.MethodName) prog_21_method_9_code (3 : Nat) (Option.some Jvm.ClassFile.FieldType.int)).before args0 about1 = true := code_word (m := ⟨11, 5⟩) (meth := k11m5) (c := k11c5) (by decide +kernel) rfl rfl rfl (by decide +kernel)
set_option maxRecDepth 65536 in
theorem w_c25 : (Jvm.Cond.code ({ cls := "java/util/Optional", name := "isPresent", desc := "()Z" } : Jvm.MethodName) jdk_32_method_6_code (1 : Nat) (Option.some Jvm.ClassFile.FieldType.boolean)).before args0 about1 = true := code_word (m := ⟨12, 1⟩) (meth := k12m1) (c := k12c1) (by decide +kernel) rfl rfl rfl (by decide +kernel)
set_option maxRecDepth 65536 in
theorem w_c26 : (Jvm.Cond.code ({ cls := "java/lang/Boolean", name := "compare", desc := "(ZZ)I" } : Jvm.MethodName) jdk_2055_method_14_code (2 : Nat) (Option.some Jvm.ClassFile.FieldType.int)).before args0 about1 = true := code_word (m := ⟨16, 0⟩) (meth := k16m0) (c := k16c0) (by decide +kernel) rfl rfl rfl (by decide +kernel)
set_option maxRecDepth 65536 in
theorem w_c27 : (Jvm.Cond.code ({ cls := "java/lang/String", name := "compareTo", desc := "(Ljava/lang/String;)I" } : Jvm.MethodName) jdk_42_method_71_code (5 : Nat) (Option.some Jvm.ClassFile.FieldType.int)).before args0 about1 = true := code_word (m := ⟨7, 3⟩) (meth := k7m3) (c := k7c3) (by decide +kernel) rfl rfl rfl (by decide +kernel)
set_option maxRecDepth 65536 in
theorem w_c28 : (Jvm.Cond.code ({ cls := "java/lang/String", name := "coder", desc := "()B" } : Jvm.MethodName) jdk_42_method_152_code (1 : Nat) (Option.some Jvm.ClassFile.FieldType.byte)).before args0 about1 = true := code_word (m := ⟨7, 5⟩) (meth := k7m5) (c := k7c5) (by decide +kernel) rfl rfl rfl (by decide +kernel)
set_option maxRecDepth 65536 in
theorem w_c29 : (Jvm.Cond.code ({ cls := "java/lang/StringLatin1", name := "compareTo", desc := "([B[B)I" } : Jvm.MethodName) jdk_43_method_14_code (4 : Nat) (Option.some Jvm.ClassFile.FieldType.int)).before args0 about1 = true := code_word (m := ⟨9, 2⟩) (meth := k9m2) (c := k9c2) (by decide +kernel) rfl rfl rfl (by decide +kernel)
set_option maxRecDepth 65536 in
theorem w_c30 : (Jvm.Cond.code ({ cls := "java/lang/StringLatin1", name := "compareTo", desc := "([B[BII)I" } : Jvm.MethodName) jdk_43_method_15_code (6 : Nat) (Option.some Jvm.ClassFile.FieldType.int)).before args0 about1 = true := code_word (m := ⟨9, 3⟩) (meth := k9m3) (c := k9c3) (by decide +kernel) rfl rfl rfl (by decide +kernel)
set_option maxRecDepth 65536 in
theorem w_c31 : (Jvm.Cond.code ({ cls := "java/lang/Math", name := "min", desc := "(II)I" } : Jvm.MethodName) jdk_29_method_69_code (2 : Nat) (Option.some Jvm.ClassFile.FieldType.int)).before args0 about1 = true := code_word (m := ⟨17, 1⟩) (meth := k17m1) (c := k17c1) (by decide +kernel) rfl rfl rfl (by decide +kernel)
set_option maxRecDepth 65536 in
theorem w_c32 : (Jvm.Cond.code ({ cls := "jdk/internal/util/ArraysSupport", name := "mismatch", desc := "([B[BI)I" } : Jvm.MethodName) jdk_48_method_13_code (4 : Nat) (Option.some Jvm.ClassFile.FieldType.int)).before args0 about1 = true := code_word (m := ⟨18, 1⟩) (meth := k18m1) (c := k18c1) (by decide +kernel) rfl rfl rfl (by decide +kernel)
set_option maxRecDepth 65536 in
theorem w_c33 : (Jvm.Cond.code ({ cls := "java/lang/StringLatin1", name := "getChar", desc := "([BI)C" } : Jvm.MethodName) jdk_43_method_44_code (2 : Nat) (Option.some Jvm.ClassFile.FieldType.char)).before args0 about1 = true := code_word (m := ⟨9, 4⟩) (meth := k9m4) (c := k9c4) (by decide +kernel) rfl rfl rfl (by decide +kernel)
def codes1 : List Jvm.Cond := [Jvm.Cond.code x code maxLocals ret, Jvm.Cond.code ({ cls := "com/example/stairwell/stairwell/core/StepRepeatablePinLaw", name := "mk", desc := "(II)Ljava/lang/String;" } : Jvm.MethodName) method_2_code (5 : Nat) (Option.some (Jvm.ClassFile.FieldType.object "java/lang/String")), Jvm.Cond.code ({ cls := "java/lang/String", name := "<init>", desc := "([C)V" } : Jvm.MethodName) jdk_42_method_3_code (2 : Nat) (Option.none : Option Jvm.ClassFile.FieldType), Jvm.Cond.code ({ cls := "java/lang/String", name := "<init>", desc := "([CIILjava/lang/Void;)V" } : Jvm.MethodName) jdk_42_method_149_code (6 : Nat) (Option.none : Option Jvm.ClassFile.FieldType), Jvm.Cond.code ({ cls := "java/lang/Object", name := "<init>", desc := "()V" } : Jvm.MethodName) object_method_1_code (1 : Nat) (Option.none : Option Jvm.ClassFile.FieldType), Jvm.Cond.code ({ cls := "java/lang/StringUTF16", name := "compress", desc := "([CII)[B" } : Jvm.MethodName) jdk_52_method_16_code (6 : Nat) (Option.some (Jvm.ClassFile.FieldType.array Jvm.ClassFile.FieldType.byte)), Jvm.Cond.code ({ cls := "java/lang/StringUTF16", name := "compress", desc := "([CI[BII)I" } : Jvm.MethodName) jdk_52_method_21_code (7 : Nat) (Option.some Jvm.ClassFile.FieldType.int), Jvm.Cond.code ({ cls := "java/lang/StringUTF16", name := "coderFromArrayLen", desc := "([BI)B" } : Jvm.MethodName) jdk_52_method_15_code (2 : Nat) (Option.some Jvm.ClassFile.FieldType.byte), Jvm.Cond.code ({ cls := "java/lang/String", name := "equals", desc := "(Ljava/lang/Object;)Z" } : Jvm.MethodName) jdk_42_method_66_code (3 : Nat) (Option.some Jvm.ClassFile.FieldType.boolean), Jvm.Cond.code ({ cls := "java/lang/StringLatin1", name := "equals", desc := "([B[B)Z" } : Jvm.MethodName) jdk_43_method_13_code (3 : Nat) (Option.some Jvm.ClassFile.FieldType.boolean), Jvm.Cond.code ({ cls := "com/example/stairwell/stairwell/core/Step", name := "repeatable", desc := "(Ljava/lang/String;)Lcom/example/stairwell/stairwell/core/Step;" } : Jvm.MethodName) prog_21_method_3_code (1 : Nat) (Option.some (Jvm.ClassFile.FieldType.object "com/example/stairwell/stairwell/core/Step")), Jvm.Cond.code ({ cls := "java/util/Optional", name := "empty", desc := "()Ljava/util/Optional;" } : Jvm.MethodName) jdk_32_method_1_code (1 : Nat) (Option.some (Jvm.ClassFile.FieldType.object "java/util/Optional")), Jvm.Cond.code ({ cls := "com/example/stairwell/stairwell/core/Step", name := "<init>", desc := "(Ljava/util/Optional;Ljava/lang/String;)V" } : Jvm.MethodName) prog_21_method_1_code (3 : Nat) (Option.none : Option Jvm.ClassFile.FieldType), Jvm.Cond.code ({ cls := "java/lang/Record", name := "<init>", desc := "()V" } : Jvm.MethodName) jdk_30_method_1_code (1 : Nat) (Option.none : Option Jvm.ClassFile.FieldType), Jvm.Cond.code ({ cls := "java/util/Objects", name := "requireNonNull", desc := "(Ljava/lang/Object;Ljava/lang/String;)Ljava/lang/Object;" } : Jvm.MethodName) jdk_31_method_11_code (2 : Nat) (Option.some (Jvm.ClassFile.FieldType.object "java/lang/Object")), Jvm.Cond.code ({ cls := "com/example/stairwell/stairwell/core/Step", name := "isRepeatable", desc := "()Z" } : Jvm.MethodName) prog_21_method_5_code (1 : Nat) (Option.some Jvm.ClassFile.FieldType.boolean), Jvm.Cond.code ({ cls := "java/util/Optional", name := "isEmpty", desc := "()Z" } : Jvm.MethodName) jdk_32_method_7_code (1 : Nat) (Option.some Jvm.ClassFile.FieldType.boolean), Jvm.Cond.code ({ cls := "com/example/stairwell/stairwell/core/Step", name := "name", desc := "()Ljava/lang/String;" } : Jvm.MethodName) prog_21_method_12_code (1 : Nat) (Option.some (Jvm.ClassFile.FieldType.object "java/lang/String")), Jvm.Cond.code ({ cls := "com/example/stairwell/stairwell/core/Step", name := "writtenVersion", desc := "()Ljava/lang/String;" } : Jvm.MethodName) prog_21_method_6_code (1 : Nat) (Option.some (Jvm.ClassFile.FieldType.object "java/lang/String")), Jvm.Cond.code ({ cls := "java/util/Optional", name := "map", desc := "(Ljava/util/function/Function;)Ljava/util/Optional;" } : Jvm.MethodName) jdk_32_method_11_code (2 : Nat) (Option.some (Jvm.ClassFile.FieldType.object "java/util/Optional")), Jvm.Cond.code ({ cls := "java/util/Objects", name := "requireNonNull", desc := "(Ljava/lang/Object;)Ljava/lang/Object;" } : Jvm.MethodName) jdk_31_method_10_code (1 : Nat) (Option.some (Jvm.ClassFile.FieldType.object "java/lang/Object")), Jvm.Cond.code ({ cls := "java/util/Optional", name := "orElse", desc := "(Ljava/lang/Object;)Ljava/lang/Object;" } : Jvm.MethodName) jdk_32_method_15_code (2 : Nat) (Option.some (Jvm.ClassFile.FieldType.object "java/lang/Object")), Jvm.Cond.code ({ cls := "com/example/stairwell/stairwell/core/Step", name := "equals", desc := "(Ljava/lang/Object;)Z" } : Jvm.MethodName) prog_21_method_7_code (3 : Nat) (Option.some Jvm.ClassFile.FieldType.boolean), Jvm.Cond.code ({ cls := "java/util/Optional", name := "equals", desc := "(Ljava/lang/Object;)Z" } : Jvm.MethodName) jdk_32_method_19_code (3 : Nat) (Option.some Jvm.ClassFile.FieldType.boolean), Jvm.Cond.code ({ cls := "com/example/stairwell/stairwell/core/Step", name := "compareTo", desc := "(Lcom/example/stairwell/stairwell/core/Step;)I" } : Jvm.MethodName) prog_21_method_9_code (3 : Nat) (Option.some Jvm.ClassFile.FieldType.int), Jvm.Cond.code ({ cls := "java/util/Optional", name := "isPresent", desc := "()Z" } : Jvm.MethodName) jdk_32_method_6_code (1 : Nat) (Option.some Jvm.ClassFile.FieldType.boolean), Jvm.Cond.code ({ cls := "java/lang/Boolean", name := "compare", desc := "(ZZ)I" } : Jvm.MethodName) jdk_2055_method_14_code (2 : Nat) (Option.some Jvm.ClassFile.FieldType.int), Jvm.Cond.code ({ cls := "java/lang/String", name := "compareTo", desc := "(Ljava/lang/String;)I" } : Jvm.MethodName) jdk_42_method_71_code (5 : Nat) (Option.some Jvm.ClassFile.FieldType.int), Jvm.Cond.code ({ cls := "java/lang/String", name := "coder", desc := "()B" } : Jvm.MethodName) jdk_42_method_152_code (1 : Nat) (Option.some Jvm.ClassFile.FieldType.byte), Jvm.Cond.code ({ cls := "java/lang/StringLatin1", name := "compareTo", desc := "([B[B)I" } : Jvm.MethodName) jdk_43_method_14_code (4 : Nat) (Option.some Jvm.ClassFile.FieldType.int), Jvm.Cond.code ({ cls := "java/lang/StringLatin1", name := "compareTo", desc := "([B[BII)I" } : Jvm.MethodName) jdk_43_method_15_code (6 : Nat) (Option.some Jvm.ClassFile.FieldType.int), Jvm.Cond.code ({ cls := "java/lang/Math", name := "min", desc := "(II)I" } : Jvm.MethodName) jdk_29_method_69_code (2 : Nat) (Option.some Jvm.ClassFile.FieldType.int), Jvm.Cond.code ({ cls := "jdk/internal/util/ArraysSupport", name := "mismatch", desc := "([B[BI)I" } : Jvm.MethodName) jdk_48_method_13_code (4 : Nat) (Option.some Jvm.ClassFile.FieldType.int), Jvm.Cond.code ({ cls := "java/lang/StringLatin1", name := "getChar", desc := "([BI)C" } : Jvm.MethodName) jdk_43_method_44_code (2 : Nat) (Option.some Jvm.ClassFile.FieldType.char)]
set_option maxRecDepth 65536 in
theorem codes_eq : words1.filter isCode = codes1 := rfl
theorem w_codes : ∀ c ∈ words1.filter isCode, c.before args0 about1 = true := by
  rw [codes_eq]
  intro c hc
  simp only [codes1, List.mem_cons, List.not_mem_nil, or_false] at hc
  rcases hc with rfl | rfl | rfl | rfl | rfl | rfl | rfl | rfl | rfl | rfl | rfl | rfl | rfl | rfl | rfl | rfl | rfl | rfl | rfl | rfl | rfl | rfl | rfl | rfl | rfl | rfl | rfl | rfl | rfl | rfl | rfl | rfl | rfl | rfl
  · exact w_c0
  · exact w_c1
  · exact w_c2
  · exact w_c3
  · exact w_c4
  · exact w_c5
  · exact w_c6
  · exact w_c7
  · exact w_c8
  · exact w_c9
  · exact w_c10
  · exact w_c11
  · exact w_c12
  · exact w_c13
  · exact w_c14
  · exact w_c15
  · exact w_c16
  · exact w_c17
  · exact w_c18
  · exact w_c19
  · exact w_c20
  · exact w_c21
  · exact w_c22
  · exact w_c23
  · exact w_c24
  · exact w_c25
  · exact w_c26
  · exact w_c27
  · exact w_c28
  · exact w_c29
  · exact w_c30
  · exact w_c31
  · exact w_c32
  · exact w_c33
set_option maxRecDepth 65536 in
theorem w_t1 : (words1.take 24).all (fun c => isCode c || c.before args0 about1) = true := by decide +kernel
set_option maxRecDepth 65536 in
theorem w_t2 : ((words1.drop 24).take 24).all (fun c => isCode c || c.before args0 about1) = true := by decide +kernel
set_option maxRecDepth 65536 in
theorem w_t3 : (((words1.drop 24).drop 24).take 24).all (fun c => isCode c || c.before args0 about1) = true := by decide +kernel
set_option maxRecDepth 65536 in
theorem w_t4 : ((((words1.drop 24).drop 24).drop 24).take 24).all (fun c => isCode c || c.before args0 about1) = true := by decide +kernel
set_option maxRecDepth 65536 in
theorem w_t5 : (((((words1.drop 24).drop 24).drop 24).drop 24).take 24).all (fun c => isCode c || c.before args0 about1) = true := by decide +kernel
set_option maxRecDepth 65536 in
theorem w_t6 : ((((((words1.drop 24).drop 24).drop 24).drop 24).drop 24).take 24).all (fun c => isCode c || c.before args0 about1) = true := by decide +kernel
set_option maxRecDepth 65536 in
theorem w_t7 : (((((((words1.drop 24).drop 24).drop 24).drop 24).drop 24).drop 24).take 24).all (fun c => isCode c || c.before args0 about1) = true := by decide +kernel
set_option maxRecDepth 65536 in
theorem w_t8 : (((((((words1.drop 24).drop 24).drop 24).drop 24).drop 24).drop 24).drop 24).all (fun c => isCode c || c.before args0 about1) = true := by decide +kernel
theorem w_tables : (allAtoms (Jvm.Cond.code x code maxLocals ret :: tables_1)).before args0 about1 = true := by
  rw [allAtoms_all]
  show words1.all (fun c => c.before args0 about1) = true
  refine all_split ?_ w_codes
  rw [← List.take_append_drop 24 words1, List.all_append, w_t1, ← List.take_append_drop 24 (words1.drop 24), List.all_append, w_t2, ← List.take_append_drop 24 ((words1.drop 24).drop 24), List.all_append, w_t3, ← List.take_append_drop 24 (((words1.drop 24).drop 24).drop 24), List.all_append, w_t4, ← List.take_append_drop 24 ((((words1.drop 24).drop 24).drop 24).drop 24), List.all_append, w_t5, ← List.take_append_drop 24 (((((words1.drop 24).drop 24).drop 24).drop 24).drop 24), List.all_append, w_t6, ← List.take_append_drop 24 ((((((words1.drop 24).drop 24).drop 24).drop 24).drop 24).drop 24), List.all_append, w_t7, w_t8]
  rfl
set_option maxRecDepth 65536 in
theorem w_rest : rest_1_c.before args0 about1 = true := by decide +kernel
set_option maxRecDepth 65536 in
theorem w_case : (Jvm.Cond.and given_1 narrow_1).before args0 about1 = true := by decide +kernel
set_option maxRecDepth 65536 in
theorem w_consts : constsHeld consts_1 about1 := Jvm.Lit.constsHeldB_iff.mp (by decide +kernel)
theorem w_applies : (headSpec (Jvm.Cond.code x code maxLocals ret :: tables_1) room_1).applies x e0.platform about1 = true :=
  (Spec.applies_iff w_frames).mpr ⟨w_running, w_runnable, w_alone, w_named, w_hears, w_ripe, w_room, w_tables⟩
theorem atStart : AtStart classFile x code maxLocals ret World_1 tables_1 room_1 Calls_1 rest_1 Pre_1 launch0 p0 e0 about1 theMethod args0 below0 :=
  ⟨lists_1, trivial, launch0.admits_env _ _ _, launch0.least_env, fairChoices_fair.cas, fairChoices_fair.clock, w_frames, w_args, w_heap, w_applies, ⟨w_consts, trivial⟩, w_rest, w_case⟩
end start1
theorem witness_1 : WitnessClaimed_1 := ⟨start1.p0, start1.e0, start1.about1, start1.theMethod, start1.args0, start1.below0, start1.atStart⟩
end Jvm.Pilot.@@N@@
