import JvmDerived
import JvmDerived.Pilot.@@N@@Statement
import JvmDerived.Pilot.@@N@@Code
set_option linter.unusedVariables false
set_option linter.unusedSimpArgs false
namespace Jvm.Own
open Sem ClassFile Op Lib Jvm.Stand Jvm.Free Jvm.LawKit Jvm.RoadKit
/-! THE LAYER. A symbolic heap (a list of cells, each described), and W: from here the body runs to its end with what Q says. One law an instruction: what W asks behind it gives W ahead of it. -/
/-- a field: the class that declares it, its name, its descriptor -/
abbrev Fd : Type := String × String × String
/-- a cell: an object (its class; its known fields; what they hold), or an array (its component type; what it holds) -/
abbrev SC : Type := (String × List Fd × List Value) ⊕ (FieldType × List Value)
abbrev obj (C : String) (fs : List Fd) (vs : List Value) : SC := Sum.inl (C, fs, vs)
abbrev arr (t : FieldType) (vs : List Value) : SC := Sum.inr (t, vs)
/-- its address; may the walk write it; what it is -/
abbrev Ent : Type := Addr × Bool × SC
/-- a String constant that has been loaded: its class, its entry, its text, where it lies -/
abbrev LitE : Type := String × Nat × String × Addr
/-- the launch, the case's start, its arguments, is the frame the narrow one -/
abbrev Gx : Type := Launch × State × Array Value × Bool
abbrev Gx.l (G : Gx) : Launch := G.1
abbrev Gx.Z (G : Gx) : State := G.2.1
abbrev Gx.a0 (G : Gx) : Array Value := G.2.2.1
abbrev Gx.nw (G : Gx) : Bool := G.2.2.2
/-- what one invocation has: program, environment, the state at its start, its method .. -/
abbrev Kx : Type := Program × Env × State × MethodId × Array Value × List Frame × Method × Code
abbrev Kx.p (K : Kx) : Program := K.1
abbrev Kx.e (K : Kx) : Env := K.2.1
abbrev Kx.s (K : Kx) : State := K.2.2.1
abbrev Kx.m (K : Kx) : MethodId := K.2.2.2.1
abbrev Kx.args (K : Kx) : Array Value := K.2.2.2.2.1
abbrev Kx.below (K : Kx) : List Frame := K.2.2.2.2.2.1
abbrev Kx.meth (K : Kx) : Method := K.2.2.2.2.2.2.1
abbrev Kx.c (K : Kx) : Code := K.2.2.2.2.2.2.2

/-! ### the symbolic heap -/
def AV (Z : State) (h : Heap) (a : Addr) (w : Bool) (t : FieldType) (vs : List Value) : Prop :=
  ∃ c : Cell, Arr Z h a c t ∧ c.slots.toList = vs ∧ vs.length < 2147483648 ∧ (∀ v ∈ vs, fits t v = true) ∧ (w = true → ∀ C, t = .object C → Ovr Z c.cls C)
def LaidAll (Z : State) (a0 : Array Value) (C : String) (fs : List Fd) : Prop :=
  (fs.map fun f => f.2.1).Nodup ∧ ∀ f ∈ fs, Laid Z a0 C f.1 f.2.1 f.2.2 ∧ ∃ t, parseFieldDescriptor f.2.2 = some t
theorem LaidAll.cons {Z : State} {a0 : Array Value} {C O n d : String} {t : FieldType} {fs : List Fd} (h : Laid Z a0 C O n d) (ht : parseFieldDescriptor d = some t) (r : ∀ f ∈ fs, Laid Z a0 C f.1 f.2.1 f.2.2 ∧ ∃ t, parseFieldDescriptor f.2.2 = some t) :
    ∀ f ∈ ((O, n, d) : Fd) :: fs, Laid Z a0 C f.1 f.2.1 f.2.2 ∧ ∃ t, parseFieldDescriptor f.2.2 = some t := fun f hf => by
  rcases List.mem_cons.mp hf with rfl | hf
  · exact ⟨h, t, ht⟩
  · exact r f hf
theorem LaidAll.nil {Z : State} {a0 : Array Value} {C : String} : ∀ f ∈ ([] : List Fd), Laid Z a0 C f.1 f.2.1 f.2.2 ∧ ∃ t, parseFieldDescriptor f.2.2 = some t := fun _ hf => nomatch hf
def Des (Z : State) (a0 : Array Value) (h : Heap) (a : Addr) (w : Bool) : SC → Prop
  | .inl (C, fs, vs) => Exa Z h a C ∧ vs.length = fs.length ∧ (∀ (i : Nat) (f : Fd) (v : Value), fs[i]? = some f → vs[i]? = some v → Fld Z h a f.1 f.2.1 f.2.2 v) ∧ (w = true → LaidAll Z a0 C fs)
  | .inr (t, vs) => AV Z h a w t vs
def Sep (As : List Ent) : Prop := (As.map fun e => (e.1, e.2.1)).Pairwise fun p q => p.2 = true ∨ q.2 = true → p.1 ≠ q.1
def Inv (G : Gx) (As : List Ent) (h : Heap) : Prop :=
  Ext G.Z.heap h ∧ Sep As ∧ ∀ e ∈ As, (e.2.1 = true → G.Z.heap.size ≤ e.1) ∧ Des G.Z G.a0 h e.1 e.2.1 e.2.2
def LI (Z : State) (vm : Vm) (Li : List LitE) : Prop := IB Z vm (Li.map fun q => q.2.2.1) ∧ ∀ q ∈ Li, RoadKit.Lit (Z.setVm vm) q.1 q.2.1 q.2.2.2

section Heaps
variable {Z : State} {a0 : Array Value} {h h' : Heap} {a b : Addr} {w : Bool} {sc sc' : SC} {As As' : List Ent} {G : Gx} {C O n d : String} {v : Value} {fs : List Fd} {vs vs' : List Value} {t : FieldType}
theorem Fld.cell' (e : ∀ c, h[a]? = some c → h'[a]? = some c) (F : Fld Z h a C n d v) : Fld Z h' a C n d v := by
  obtain ⟨cell, cf, k, i, f, h1, r⟩ := F; exact ⟨cell, cf, k, i, f, e _ h1, r⟩
theorem Exa.cell' (e : ∀ c, h[a]? = some c → h'[a]? = some c) (F : Exa Z h a C) : Exa Z h' a C := by
  obtain ⟨cell, k, h1, r⟩ := F; exact ⟨cell, k, e _ h1, r⟩
theorem Des.cell (e : ∀ c, h[a]? = some c → h'[a]? = some c) (D : Des Z a0 h a w sc) : Des Z a0 h' a w sc := by
  rcases sc with ⟨C, fs, vs⟩ | ⟨t, vs⟩
  · obtain ⟨h1, h2, h3, h4⟩ := D
    exact ⟨Exa.cell' e h1, h2, fun i f v q r => Fld.cell' e (h3 i f v q r), h4⟩
  · obtain ⟨c, A, r⟩ := D
    exact ⟨c, ⟨e _ A.1, A.2⟩, r⟩
theorem Des.lt (D : Des Z a0 h a w sc) : a < h.size := by
  rcases sc with ⟨C, fs, vs⟩ | ⟨t, vs⟩
  · exact D.1.lt
  · obtain ⟨c, A, -⟩ := D; exact A.lt
theorem Inv.ext (I : Inv G As h) (E : Ext h h') : Inv G As h' :=
  ⟨⟨Nat.le_trans I.1.1 E.1, fun x c q => E.2 x c (I.1.2 x c q)⟩, I.2.1, fun e he => ⟨(I.2.2 e he).1, (I.2.2 e he).2.cell fun c q => E.2 _ c q⟩⟩
theorem Inv.ge (I : Inv G As h) : G.Z.heap.size ≤ h.size := I.1.1
theorem Inv.push (I : Inv G As h) (E : Ext h h') (D : Des G.Z G.a0 h' h.size w sc) : Inv G ((h.size, w, sc) :: As) h' := by
  have J := I.ext E
  refine ⟨J.1, ?_, fun e he => ?_⟩
  · refine List.pairwise_cons.mpr ⟨fun p hp => ?_, I.2.1⟩
    obtain ⟨e, he, rfl⟩ := List.mem_map.mp hp
    exact fun _ => (Nat.ne_of_lt ((I.2.2 e he).2.lt)).symm
  · rcases List.mem_cons.mp he with rfl | he
    · exact ⟨fun _ => I.ge, D⟩
    · exact J.2.2 e he
/-- one cell of the list gets another description -/
def Upd (As : List Ent) (a : Addr) (sc sc' : SC) (As' : List Ent) : Prop := ∃ pre post, As = pre ++ (a, true, sc) :: post ∧ As' = pre ++ (a, true, sc') :: post
theorem Upd.head : Upd ((a, true, sc) :: As) a sc sc' ((a, true, sc') :: As) := ⟨[], As, rfl, rfl⟩
theorem Upd.tail {e : Ent} (u : Upd As a sc sc' As') : Upd (e :: As) a sc sc' (e :: As') := by
  obtain ⟨pre, post, rfl, rfl⟩ := u; exact ⟨e :: pre, post, rfl, rfl⟩
theorem Upd.mem (u : Upd As a sc sc' As') : (a, true, sc) ∈ As := by obtain ⟨pre, post, rfl, rfl⟩ := u; simp
theorem Inv.upd (I : Inv G As h) (u : Upd As a sc sc' As') (k : ∀ b, b ≠ a → ∀ c : Cell, h[b]? = some c → h'[b]? = some c) (hs : h.size ≤ h'.size) (D : Des G.Z G.a0 h' a true sc') : Inv G As' h' := by
  have hm := I.2.2 _ u.mem
  obtain ⟨pre, post, rfl, rfl⟩ := u
  have ha : G.Z.heap.size ≤ a := hm.1 rfl
  have sp := I.2.1
  refine ⟨⟨Nat.le_trans I.1.1 hs, fun x c q => k x (fun e => ?_) c (I.1.2 x c q)⟩, ?_, fun e he => ?_⟩
  · subst e; exact absurd (Array.getElem?_eq_some_iff.mp q).1 (Nat.not_lt.mpr ha)
  · simpa [Sep] using sp
  · simp only [Sep, List.map_append, List.map_cons, List.pairwise_append, List.pairwise_cons] at sp
    rcases List.mem_append.mp he with he | he
    · have q := I.2.2 e (List.mem_append_left _ he)
      refine ⟨q.1, q.2.cell (k _ ?_)⟩
      exact sp.2.2 _ (List.mem_map_of_mem he) (a, true) (List.mem_cons_self ..) (by simp)
    · rcases List.mem_cons.mp he with rfl | he
      · exact ⟨fun _ => ha, D⟩
      · have q := I.2.2 e (List.mem_append_right _ (List.mem_cons_of_mem _ he))
        refine ⟨q.1, q.2.cell (k _ ?_)⟩
        exact (sp.2.1.1 _ (List.mem_map_of_mem he) (by simp)).symm
/-- two places of the list, one of them the walk's own, are two cells -/
theorem Inv.ne (I : Inv G As h) {i j : Nat} {w' : Bool} (hi : As[i]? = some (a, w, sc)) (hj : As[j]? = some (b, w', sc')) (ij : i < j) (hw : w = true ∨ w' = true) : a ≠ b := by
  have sp := I.2.1
  rw [Sep, List.pairwise_iff_getElem] at sp
  obtain ⟨i1, i2⟩ := List.getElem?_eq_some_iff.mp hi
  obtain ⟨j1, j2⟩ := List.getElem?_eq_some_iff.mp hj
  have q := sp i j (by simpa using i1) (by simpa using j1) ij
  simp only [List.getElem_map, i2, j2] at q
  exact q hw
theorem Inv.perm (I : Inv G As h) (q : As.Perm As') : Inv G As' h := by
  refine ⟨I.1, ?_, fun e he => I.2.2 e (q.mem_iff.mpr he)⟩
  exact (q.map _).pairwise I.2.1 (fun {x y} r s => (r (s.symm)).symm)
theorem Inv.drop (I : Inv G As h) (q : As'.Sublist As) : Inv G As' h :=
  ⟨I.1, I.2.1.sublist (q.map _), fun e he => I.2.2 e (q.subset he)⟩
/-! fields by their names -/
def FAt (fs : List Fd) (vs : List Value) (O n d : String) (v : Value) : Prop := ∃ i : Nat, fs[i]? = some (O, n, d) ∧ vs[i]? = some v
theorem FAt.head : FAt ((O, n, d) :: fs) (v :: vs) O n d v := ⟨0, rfl, rfl⟩
theorem FAt.tail {f : Fd} {u : Value} (q : FAt fs vs O n d v) : FAt (f :: fs) (u :: vs) O n d v := by obtain ⟨i, h1, h2⟩ := q; exact ⟨i + 1, h1, h2⟩
def FUp (fs : List Fd) (vs : List Value) (O n d : String) (v : Value) (vs' : List Value) : Prop := ∃ i : Nat, fs[i]? = some (O, n, d) ∧ i < vs.length ∧ vs' = vs.set i v
theorem FUp.head {u : Value} : FUp ((O, n, d) :: fs) (u :: vs) O n d v (v :: vs) := ⟨0, rfl, Nat.succ_pos _, rfl⟩
theorem FUp.tail {f : Fd} {u : Value} (q : FUp fs vs O n d v vs') : FUp (f :: fs) (u :: vs) O n d v (u :: vs') := by
  obtain ⟨i, h1, h2, rfl⟩ := q; exact ⟨i + 1, h1, Nat.succ_lt_succ h2, rfl⟩
theorem Inv.fld (I : Inv G As h) (hm : (a, w, obj C fs vs) ∈ As) (q : FAt fs vs O n d v) : Fld G.Z h a O n d v := by
  obtain ⟨i, h1, h2⟩ := q; exact (I.2.2 _ hm).2.2.2.1 i _ v h1 h2
theorem Inv.exa (I : Inv G As h) (hm : (a, w, obj C fs vs) ∈ As) : Exa G.Z h a C := (I.2.2 _ hm).2.1
theorem Inv.av (I : Inv G As h) (hm : (a, w, arr t vs) ∈ As) : AV G.Z h a w t vs := (I.2.2 _ hm).2
theorem Inv.old (I : Inv G As h) : Ext G.Z.heap h := I.1
/-- a field is written -/
theorem Inv.wrF (I : Inv G As h) (u : Upd As a (obj C fs vs) (obj C fs vs') As') (q : FUp fs vs O n d v vs') (W : Wr h h' a (RoadKit.slotOf G.Z O n d) v) : Inv G As' h' := by
  have hm := (I.2.2 _ u.mem).2
  obtain ⟨i, h1, h2, rfl⟩ := q
  obtain ⟨e1, e2, e3, e4⟩ := hm
  have L := e4 rfl
  refine I.upd u (fun b hb c hc => ?_) (Nat.le_of_eq W.size.symm) ⟨e1.wr W, by rw [List.length_set]; exact e2, fun j f x hf hx => ?_, e4⟩
  · obtain ⟨c', q1, -, -, -, q5, -⟩ := wr_at W hc
    rw [q1, q5 hb]
  · by_cases ij : i = j
    · subst ij
      rw [h1] at hf; cases hf
      rw [List.getElem?_set_self h2] at hx; cases hx
      exact (e3 i _ _ h1 (List.getElem?_eq_getElem h2)).same W
    · rw [List.getElem?_set_ne ij] at hx
      refine (e3 j f x hf hx).other W (Or.inr ?_)
      obtain ⟨L1, t1, p1⟩ := L.2 f (List.mem_of_getElem? hf)
      obtain ⟨L2, t2, p2⟩ := L.2 _ (List.mem_of_getElem? h1)
      refine slot_ne L1 L2 (fun e => ?_) p1 p2
      have nd := L.1
      rw [List.nodup_iff_pairwise_ne, List.pairwise_iff_getElem] at nd
      obtain ⟨i1, i2⟩ := List.getElem?_eq_some_iff.mp h1
      obtain ⟨j1, j2⟩ := List.getElem?_eq_some_iff.mp hf
      rcases Nat.lt_or_gt_of_ne ij with lt | lt
      · have := nd i j (by simpa using i1) (by simpa using j1) lt
        simp only [List.getElem_map, i2, j2] at this
        exact this e.symm
      · have := nd j i (by simpa using j1) (by simpa using i1) lt
        simp only [List.getElem_map, i2, j2] at this
        exact this e
/-- a place of an array is written -/
theorem Inv.wrA (I : Inv G As h) {k : Nat} {c : Cell} (A : Arr G.Z h a c t) (u : Upd As a (arr t vs) (arr t (vs.set k v)) As') (hv : fits t v = true) (W : Wr h h' a k v) : Inv G As' h' := by
  have hm := (I.2.2 _ u.mem).2
  obtain ⟨c', A', e1, e2, e3, e4⟩ := hm
  cases A.1.symm.trans A'.1
  refine I.upd u (fun b hb c hc => ?_) (Nat.le_of_eq W.size.symm) ⟨c.setSlot k v, Arr.same W A, ?_, by rw [List.length_set]; exact e2, fun x hx => ?_, e4⟩
  · obtain ⟨c', q1, -, -, -, q5, -⟩ := wr_at W hc
    rw [q1, q5 hb]
  · rw [← e1]; simp [Cell.setSlot]
  · rcases List.mem_or_eq_of_mem_set hx with hx | rfl
    · exact e3 x hx
    · exact hv
theorem LI.warm {s : State} {vm0 vm1 : Vm} {Li : List LitE} (L : LI Z vm0 Li) (hW : (s.setVm vm0).WarmedH vm1) : LI Z vm1 Li := by
  obtain ⟨⟨more, e, hm⟩, r⟩ := L
  exact ⟨⟨more, hW.interned_eq.trans e, hm⟩, fun q hq => Lit.stays (s := s) (r q hq) hW.wide⟩
end Heaps
end Jvm.Own
namespace Jvm.Own
open Sem ClassFile Op Lib Jvm.Stand Jvm.Free Jvm.LawKit Jvm.RoadKit
abbrev Qx : Type := Option Value → List Ent → List LitE → Prop
/-- the run from t ends: the method returns v, and Q says what lies there then -/
def Fini (G : Gx) (K : Kx) (R : Room) (Q : Qx) (t : State) : Prop :=
  ∃ (U : State) (v : Option Value), Steps K.p.tables K.e K.below t U ∧ U.status = .running ∧ Ended U K.below (.returned v) ∧
    ∃ (L : List Loc) (As : List Ent) (Li : List LitE), Q v As Li ∧ Inv G As U.heap ∧ LI G.Z U.vm Li ∧ Fr G.Z.heap.size L ∧ ReturnedEndW K.s (.returned v) U L R.cells R.slots ∧ (G.nw = true → K.s.WarmedH U.vm)
def Ok (G : Gx) (K : Kx) (y : MethodName) (code : ByteArray) (mL : Nat) (ret : Option FieldType) : Prop :=
  K.p.tables.exec = Jvm.exec ∧ K.c.code = code ∧ K.c.maxLocals = mL ∧ G.Z.Warmed39 K.s.vm ∧ K.s.vm.findClass y.cls = some K.m.cls ∧ K.meth.name = y.name ∧ K.meth.sig.returnType = ret ∧ K.meth.locks = false
/-- the body of y stands at pc with these locals and this stack over this symbolic heap: it runs to its end -/
def W (G : Gx) (K : Kx) (y : MethodName) (code : ByteArray) (ret : Option FieldType) (R : Room) (Q : Qx) (As : List Ent) (Li : List LitE) (cells slots pc : Nat) (Ls : List Slot) (st : List Value) : Prop :=
  ∀ (T : State) (vm0 : Vm) (k0 : Nat) (locs : List Loc), Ok G K y code Ls.length ret → Stand K.p G.l K.e R (K.s.setVm vm0) K.m K.args K.below K.meth K.c T locs cells slots →
    K.s.Since vm0 k0 → k0 ≤ T.heap.size → (G.nw = true → K.s.WarmedH vm0) → Inv G As T.heap → LI G.Z vm0 Li → Fr G.Z.heap.size locs → Fini G K R Q (T.setTop (mkF K.m pc Ls.toArray st))
section Laws
variable {G : Gx} {K : Kx} {y : MethodName} {code : ByteArray} {ret : Option FieldType} {R : Room} {Q : Qx} {As As' : List Ent} {Li Li' : List LitE} {cells slots pc pc' : Nat} {Ls Ls' : List Slot} {st st' : List Value}
theorem W.via (hlen : Ls'.length = Ls.length) (n : W G K y code ret R Q As Li cells slots pc' Ls' st')
    (stp : ∀ T : State, At T K.m K.c K.below → K.p.tables.exec = Jvm.exec → K.c.code = code → ∀ target, Steps K.p.tables K.e K.below (T.setTop (mkF K.m pc' Ls'.toArray st')) target → Steps K.p.tables K.e K.below (T.setTop (mkF K.m pc Ls.toArray st)) target) :
    W G K y code ret R Q As Li cells slots pc Ls st := by
  intro T vm0 k0 locs ok X hS hk hN hI hL hF
  obtain ⟨U, v, h1, h2⟩ := n T vm0 k0 locs (hlen ▸ ok) X hS hk hN hI hL hF
  exact ⟨U, v, stp T X.here ok.1 ok.2.1 U h1, h2⟩
theorem W.mono {cells' slots' : Nat} (n : W G K y code ret R Q As Li cells' slots' pc Ls st) (hc : cells ≤ cells') (hs : slots ≤ slots') : W G K y code ret R Q As Li cells slots pc Ls st :=
  fun T vm0 k0 locs ok X hS hk hN hI hL hF => n T vm0 k0 locs ok (X.more hc hs) hS hk hN hI hL hF
theorem W.perm (n : W G K y code ret R Q As' Li cells slots pc Ls st) (q : As.Perm As') : W G K y code ret R Q As Li cells slots pc Ls st :=
  fun T vm0 k0 locs ok X hS hk hN hI hL hF => n T vm0 k0 locs ok X hS hk hN (hI.perm q) hL hF
theorem W.drop (n : W G K y code ret R Q As' Li cells slots pc Ls st) (q : As'.Sublist As) : W G K y code ret R Q As Li cells slots pc Ls st :=
  fun T vm0 k0 locs ok X hS hk hN hI hL hF => n T vm0 k0 locs ok X hS hk hN (hI.drop q) hL hF
theorem W.know (n : ∀ h, Inv G As h → W G K y code ret R Q As Li cells slots pc Ls st) : W G K y code ret R Q As Li cells slots pc Ls st :=
  fun T vm0 k0 locs ok X hS hk hN hI hL hF => n T.heap hI T vm0 k0 locs ok X hS hk hN hI hL hF
theorem W.conseq {Q' : Qx} (n : W G K y code ret R Q' As Li cells slots pc Ls st) (q : ∀ v As Li, Q' v As Li → Q v As Li) : W G K y code ret R Q As Li cells slots pc Ls st := by
  intro T vm0 k0 locs ok X hS hk hN hI hL hF
  obtain ⟨U, v, h1, h2, h3, L, A, I, h4, h5⟩ := n T vm0 k0 locs ok X hS hk hN hI hL hF
  exact ⟨U, v, h1, h2, h3, L, A, I, q _ _ _ h4, h5⟩

theorem W.iloadN {k : Fin 4} {v : Int32} (hd : decode code pc = .ok (.iload_n k, 1)) (hl : Ls[k.val]? = some (.val (.int v))) (n : W G K y code ret R Q As Li cells slots (pc + 1) Ls (.int v :: st)) : W G K y code ret R Q As Li cells slots pc Ls st :=
  W.via rfl n fun T h hx hby tg hr => XS.iloadN h hx rfl (hb hby hd) (by simpa using hl) hr
theorem W.iload {k : Nat} {v : Int32} (hd : decode code pc = .ok (.iload k, 2)) (hl : Ls[k]? = some (.val (.int v))) (n : W G K y code ret R Q As Li cells slots (pc + 2) Ls (.int v :: st)) : W G K y code ret R Q As Li cells slots pc Ls st :=
  W.via rfl n fun T h hx hby tg hr => XS.iload h hx rfl (hb hby hd) (by simpa using hl) hr
theorem W.lloadN {k : Fin 4} {v : Int64} (hd : decode code pc = .ok (.lload_n k, 1)) (hl : Ls[k.val]? = some (.val (.long v))) (n : W G K y code ret R Q As Li cells slots (pc + 1) Ls (.long v :: st)) : W G K y code ret R Q As Li cells slots pc Ls st :=
  W.via rfl n fun T h hx hby tg hr => XS.lloadN h hx rfl (hb hby hd) (by simpa using hl) hr
theorem W.lload {k : Nat} {v : Int64} (hd : decode code pc = .ok (.lload k, 2)) (hl : Ls[k]? = some (.val (.long v))) (n : W G K y code ret R Q As Li cells slots (pc + 2) Ls (.long v :: st)) : W G K y code ret R Q As Li cells slots pc Ls st :=
  W.via rfl n fun T h hx hby tg hr => XS.lload h hx rfl (hb hby hd) (by simpa using hl) hr
theorem W.aloadN {k : Fin 4} {v : Value} (hd : decode code pc = .ok (.aload_n k, 1)) (hl : Ls[k.val]? = some (.val v)) (hv : v.isRef = true) (n : W G K y code ret R Q As Li cells slots (pc + 1) Ls (v :: st)) : W G K y code ret R Q As Li cells slots pc Ls st :=
  W.via rfl n fun T h hx hby tg hr => XS.aloadN h hx rfl (hb hby hd) (by simpa using hl) hv hr
theorem W.aload {k : Nat} {v : Value} (hd : decode code pc = .ok (.aload k, 2)) (hl : Ls[k]? = some (.val v)) (hv : v.isRef = true) (n : W G K y code ret R Q As Li cells slots (pc + 2) Ls (v :: st)) : W G K y code ret R Q As Li cells slots pc Ls st :=
  W.via rfl n fun T h hx hby tg hr => XS.aload h hx rfl (hb hby hd) (by simpa using hl) hv hr
theorem W.istoreN {k : Fin 4} {x : Int32} (hd : decode code pc = .ok (.istore_n k, 1)) (hl : storeLocals Ls.toArray k.val (.int x) = some Ls'.toArray) (hn : Ls'.length = Ls.length) (n : W G K y code ret R Q As Li cells slots (pc + 1) Ls' st) : W G K y code ret R Q As Li cells slots pc Ls (.int x :: st) :=
  W.via hn n fun T h hx hby tg hr => XS.istoreN h hx rfl (hb hby hd) rfl hl hr
theorem W.istore {k : Nat} {x : Int32} (hd : decode code pc = .ok (.istore k, 2)) (hl : storeLocals Ls.toArray k (.int x) = some Ls'.toArray) (hn : Ls'.length = Ls.length) (n : W G K y code ret R Q As Li cells slots (pc + 2) Ls' st) : W G K y code ret R Q As Li cells slots pc Ls (.int x :: st) :=
  W.via hn n fun T h hx hby tg hr => XS.istore h hx rfl (hb hby hd) rfl hl hr
theorem W.lstoreN {k : Fin 4} {x : Int64} (hd : decode code pc = .ok (.lstore_n k, 1)) (hl : storeLocals Ls.toArray k.val (.long x) = some Ls'.toArray) (hn : Ls'.length = Ls.length) (n : W G K y code ret R Q As Li cells slots (pc + 1) Ls' st) : W G K y code ret R Q As Li cells slots pc Ls (.long x :: st) :=
  W.via hn n fun T h hx hby tg hr => XS.lstoreN h hx rfl (hb hby hd) rfl hl hr
theorem W.lstore {k : Nat} {x : Int64} (hd : decode code pc = .ok (.lstore k, 2)) (hl : storeLocals Ls.toArray k (.long x) = some Ls'.toArray) (hn : Ls'.length = Ls.length) (n : W G K y code ret R Q As Li cells slots (pc + 2) Ls' st) : W G K y code ret R Q As Li cells slots pc Ls (.long x :: st) :=
  W.via hn n fun T h hx hby tg hr => XS.lstore h hx rfl (hb hby hd) rfl hl hr
theorem W.astoreN {k : Fin 4} {x : Value} (hd : decode code pc = .ok (.astore_n k, 1)) (hv : x.isRef = true) (hl : storeLocals Ls.toArray k.val x = some Ls'.toArray) (hn : Ls'.length = Ls.length) (n : W G K y code ret R Q As Li cells slots (pc + 1) Ls' st) : W G K y code ret R Q As Li cells slots pc Ls (x :: st) :=
  W.via hn n fun T h hx hby tg hr => XS.astoreN h hx rfl (hb hby hd) rfl hv hl hr
theorem W.astore {k : Nat} {x : Value} (hd : decode code pc = .ok (.astore k, 2)) (hv : x.isRef = true) (hl : storeLocals Ls.toArray k x = some Ls'.toArray) (hn : Ls'.length = Ls.length) (n : W G K y code ret R Q As Li cells slots (pc + 2) Ls' st) : W G K y code ret R Q As Li cells slots pc Ls (x :: st) :=
  W.via hn n fun T h hx hby tg hr => XS.astore h hx rfl (hb hby hd) rfl hv hl hr
theorem W.iinc {k : Nat} {cst : Int} {x z : Int32} (hd : decode code pc = .ok (.iinc k cst, 3)) (hk : Ls[k]? = some (.val (.int x))) (hz : Int32.ofInt cst = z) (hl : storeLocals Ls.toArray k (.int (x + z)) = some Ls'.toArray) (hn : Ls'.length = Ls.length) (n : W G K y code ret R Q As Li cells slots (pc + 3) Ls' st) : W G K y code ret R Q As Li cells slots pc Ls st :=
  W.via hn n fun T h hx hby tg hr => XS.iinc h hx rfl (hb hby hd) (by simpa using hk) (by rw [hz]; exact hl) hr
theorem W.iconst {i : Int} {z : Int32} (hd : decode code pc = .ok (.iconst i, 1)) (hz : Int32.ofInt i = z) (n : W G K y code ret R Q As Li cells slots (pc + 1) Ls (.int z :: st)) : W G K y code ret R Q As Li cells slots pc Ls st :=
  W.via rfl n fun T h hx hby tg hr => XS.iconst h hx rfl (hb hby hd) (by rw [hz]; exact hr)
theorem W.bipush {i : Int} {z : Int32} (hd : decode code pc = .ok (.bipush i, 2)) (hz : (Int8.ofInt i).toInt32 = z) (n : W G K y code ret R Q As Li cells slots (pc + 2) Ls (.int z :: st)) : W G K y code ret R Q As Li cells slots pc Ls st :=
  W.via rfl n fun T h hx hby tg hr => XS.bipush h hx rfl (hb hby hd) (by rw [hz]; exact hr)
theorem W.sipush {i : Int} {z : Int32} (hd : decode code pc = .ok (.sipush i, 3)) (hz : (Int16.ofInt i).toInt32 = z) (n : W G K y code ret R Q As Li cells slots (pc + 3) Ls (.int z :: st)) : W G K y code ret R Q As Li cells slots pc Ls st :=
  W.via rfl n fun T h hx hby tg hr => XS.sipush h hx rfl (hb hby hd) (by rw [hz]; exact hr)
theorem W.lconst {k : Fin 2} {z : Int64} (hd : decode code pc = .ok (.lconst k, 1)) (hz : Int64.ofNat k = z) (n : W G K y code ret R Q As Li cells slots (pc + 1) Ls (.long z :: st)) : W G K y code ret R Q As Li cells slots pc Ls st :=
  W.via rfl n fun T h hx hby tg hr => XS.lconst h hx rfl (hb hby hd) (by rw [hz]; exact hr)
theorem W.aconstNull  (hd : decode code pc = .ok (.aconst_null, 1))  (n : W G K y code ret R Q As Li cells slots (pc + 1) Ls (.null :: st)) : W G K y code ret R Q As Li cells slots pc Ls st :=
  W.via rfl n fun T h hx hby tg hr => XS.aconstNull h hx rfl (hb hby hd) hr
theorem W.iadd {x u z : Int32} (hd : decode code pc = .ok (.iadd, 1)) (hz : x + u = z) (n : W G K y code ret R Q As Li cells slots (pc + 1) Ls (.int z :: st)) : W G K y code ret R Q As Li cells slots pc Ls (.int u :: .int x :: st) :=
  W.via rfl n fun T h hx hby tg hr => XS.iadd h hx rfl (hb hby hd) rfl (by subst hz; exact hr)
theorem W.isub {x u z : Int32} (hd : decode code pc = .ok (.isub, 1)) (hz : x - u = z) (n : W G K y code ret R Q As Li cells slots (pc + 1) Ls (.int z :: st)) : W G K y code ret R Q As Li cells slots pc Ls (.int u :: .int x :: st) :=
  W.via rfl n fun T h hx hby tg hr => XS.isub h hx rfl (hb hby hd) rfl (by subst hz; exact hr)
theorem W.imul {x u z : Int32} (hd : decode code pc = .ok (.imul, 1)) (hz : x * u = z) (n : W G K y code ret R Q As Li cells slots (pc + 1) Ls (.int z :: st)) : W G K y code ret R Q As Li cells slots pc Ls (.int u :: .int x :: st) :=
  W.via rfl n fun T h hx hby tg hr => XS.imul h hx rfl (hb hby hd) rfl (by subst hz; exact hr)
theorem W.iand {x u z : Int32} (hd : decode code pc = .ok (.iand, 1)) (hz : x &&& u = z) (n : W G K y code ret R Q As Li cells slots (pc + 1) Ls (.int z :: st)) : W G K y code ret R Q As Li cells slots pc Ls (.int u :: .int x :: st) :=
  W.via rfl n fun T h hx hby tg hr => XS.iand h hx rfl (hb hby hd) rfl (by subst hz; exact hr)
theorem W.ior {x u z : Int32} (hd : decode code pc = .ok (.ior, 1)) (hz : x ||| u = z) (n : W G K y code ret R Q As Li cells slots (pc + 1) Ls (.int z :: st)) : W G K y code ret R Q As Li cells slots pc Ls (.int u :: .int x :: st) :=
  W.via rfl n fun T h hx hby tg hr => XS.ior h hx rfl (hb hby hd) rfl (by subst hz; exact hr)
theorem W.ixor {x u z : Int32} (hd : decode code pc = .ok (.ixor, 1)) (hz : x ^^^ u = z) (n : W G K y code ret R Q As Li cells slots (pc + 1) Ls (.int z :: st)) : W G K y code ret R Q As Li cells slots pc Ls (.int u :: .int x :: st) :=
  W.via rfl n fun T h hx hby tg hr => XS.ixor h hx rfl (hb hby hd) rfl (by subst hz; exact hr)
theorem W.ishl {x u z : Int32} (hd : decode code pc = .ok (.ishl, 1)) (hz : x <<< (u &&& 31) = z) (n : W G K y code ret R Q As Li cells slots (pc + 1) Ls (.int z :: st)) : W G K y code ret R Q As Li cells slots pc Ls (.int u :: .int x :: st) :=
  W.via rfl n fun T h hx hby tg hr => XS.ishl h hx rfl (hb hby hd) rfl (by subst hz; exact hr)
theorem W.ishr {x u z : Int32} (hd : decode code pc = .ok (.ishr, 1)) (hz : x >>> (u &&& 31) = z) (n : W G K y code ret R Q As Li cells slots (pc + 1) Ls (.int z :: st)) : W G K y code ret R Q As Li cells slots pc Ls (.int u :: .int x :: st) :=
  W.via rfl n fun T h hx hby tg hr => XS.ishr h hx rfl (hb hby hd) rfl (by subst hz; exact hr)
theorem W.iushr {x u z : Int32} (hd : decode code pc = .ok (.iushr, 1)) (hz : (x.toUInt32 >>> (u &&& 31).toUInt32).toInt32 = z) (n : W G K y code ret R Q As Li cells slots (pc + 1) Ls (.int z :: st)) : W G K y code ret R Q As Li cells slots pc Ls (.int u :: .int x :: st) :=
  W.via rfl n fun T h hx hby tg hr => XS.iushr h hx rfl (hb hby hd) rfl (by subst hz; exact hr)
theorem W.ladd {x u z : Int64} (hd : decode code pc = .ok (.ladd, 1)) (hz : x + u = z) (n : W G K y code ret R Q As Li cells slots (pc + 1) Ls (.long z :: st)) : W G K y code ret R Q As Li cells slots pc Ls (.long u :: .long x :: st) :=
  W.via rfl n fun T h hx hby tg hr => XS.ladd h hx rfl (hb hby hd) rfl (by subst hz; exact hr)
theorem W.lsub {x u z : Int64} (hd : decode code pc = .ok (.lsub, 1)) (hz : x - u = z) (n : W G K y code ret R Q As Li cells slots (pc + 1) Ls (.long z :: st)) : W G K y code ret R Q As Li cells slots pc Ls (.long u :: .long x :: st) :=
  W.via rfl n fun T h hx hby tg hr => XS.lsub h hx rfl (hb hby hd) rfl (by subst hz; exact hr)
theorem W.lmul {x u z : Int64} (hd : decode code pc = .ok (.lmul, 1)) (hz : x * u = z) (n : W G K y code ret R Q As Li cells slots (pc + 1) Ls (.long z :: st)) : W G K y code ret R Q As Li cells slots pc Ls (.long u :: .long x :: st) :=
  W.via rfl n fun T h hx hby tg hr => XS.lmul h hx rfl (hb hby hd) rfl (by subst hz; exact hr)
theorem W.land {x u z : Int64} (hd : decode code pc = .ok (.land, 1)) (hz : x &&& u = z) (n : W G K y code ret R Q As Li cells slots (pc + 1) Ls (.long z :: st)) : W G K y code ret R Q As Li cells slots pc Ls (.long u :: .long x :: st) :=
  W.via rfl n fun T h hx hby tg hr => XS.land h hx rfl (hb hby hd) rfl (by subst hz; exact hr)
theorem W.lor {x u z : Int64} (hd : decode code pc = .ok (.lor, 1)) (hz : x ||| u = z) (n : W G K y code ret R Q As Li cells slots (pc + 1) Ls (.long z :: st)) : W G K y code ret R Q As Li cells slots pc Ls (.long u :: .long x :: st) :=
  W.via rfl n fun T h hx hby tg hr => XS.lor h hx rfl (hb hby hd) rfl (by subst hz; exact hr)
theorem W.lxor {x u z : Int64} (hd : decode code pc = .ok (.lxor, 1)) (hz : x ^^^ u = z) (n : W G K y code ret R Q As Li cells slots (pc + 1) Ls (.long z :: st)) : W G K y code ret R Q As Li cells slots pc Ls (.long u :: .long x :: st) :=
  W.via rfl n fun T h hx hby tg hr => XS.lxor h hx rfl (hb hby hd) rfl (by subst hz; exact hr)
theorem W.idiv {x u z : Int32} (hd : decode code pc = .ok (.idiv, 1)) (hy : u ≠ 0) (hz : x / u = z) (n : W G K y code ret R Q As Li cells slots (pc + 1) Ls (.int z :: st)) : W G K y code ret R Q As Li cells slots pc Ls (.int u :: .int x :: st) :=
  W.via rfl n fun T h hx hby tg hr => XS.idiv h hx rfl (hb hby hd) rfl hy (by subst hz; exact hr)
theorem W.irem {x u z : Int32} (hd : decode code pc = .ok (.irem, 1)) (hy : u ≠ 0) (hz : x - x / u * u = z) (n : W G K y code ret R Q As Li cells slots (pc + 1) Ls (.int z :: st)) : W G K y code ret R Q As Li cells slots pc Ls (.int u :: .int x :: st) :=
  W.via rfl n fun T h hx hby tg hr => XS.irem h hx rfl (hb hby hd) rfl hy (by subst hz; exact hr)
theorem W.ldiv {x u z : Int64} (hd : decode code pc = .ok (.ldiv, 1)) (hy : u ≠ 0) (hz : x / u = z) (n : W G K y code ret R Q As Li cells slots (pc + 1) Ls (.long z :: st)) : W G K y code ret R Q As Li cells slots pc Ls (.long u :: .long x :: st) :=
  W.via rfl n fun T h hx hby tg hr => XS.ldiv h hx rfl (hb hby hd) rfl hy (by subst hz; exact hr)
theorem W.lrem {x u z : Int64} (hd : decode code pc = .ok (.lrem, 1)) (hy : u ≠ 0) (hz : x - x / u * u = z) (n : W G K y code ret R Q As Li cells slots (pc + 1) Ls (.long z :: st)) : W G K y code ret R Q As Li cells slots pc Ls (.long u :: .long x :: st) :=
  W.via rfl n fun T h hx hby tg hr => XS.lrem h hx rfl (hb hby hd) rfl hy (by subst hz; exact hr)
theorem W.irem' {x u : Int32} (hd : decode code pc = .ok (.irem, 1)) (hy : u ≠ 0) (n : W G K y code ret R Q As Li cells slots (pc + 1) Ls (.int (x % u) :: st)) : W G K y code ret R Q As Li cells slots pc Ls (.int u :: .int x :: st) :=
  W.via rfl n fun T h hx hby tg hr => XS.irem h hx rfl (hb hby hd) rfl hy (by rw [irem_eq_mod]; exact hr)
theorem W.ineg {x : Int32} {z : Int32} (hd : decode code pc = .ok (.ineg, 1)) (hz : -x = z) (n : W G K y code ret R Q As Li cells slots (pc + 1) Ls (.int z :: st)) : W G K y code ret R Q As Li cells slots pc Ls (.int x :: st) :=
  W.via rfl n fun T h hx hby tg hr => XS.ineg h hx rfl (hb hby hd) rfl (by subst hz; exact hr)
theorem W.lneg {x : Int64} {z : Int64} (hd : decode code pc = .ok (.lneg, 1)) (hz : -x = z) (n : W G K y code ret R Q As Li cells slots (pc + 1) Ls (.long z :: st)) : W G K y code ret R Q As Li cells slots pc Ls (.long x :: st) :=
  W.via rfl n fun T h hx hby tg hr => XS.lneg h hx rfl (hb hby hd) rfl (by subst hz; exact hr)
theorem W.i2l {x : Int32} {z : Int64} (hd : decode code pc = .ok (.i2l, 1)) (hz : x.toInt64 = z) (n : W G K y code ret R Q As Li cells slots (pc + 1) Ls (.long z :: st)) : W G K y code ret R Q As Li cells slots pc Ls (.int x :: st) :=
  W.via rfl n fun T h hx hby tg hr => XS.i2l h hx rfl (hb hby hd) rfl (by subst hz; exact hr)
theorem W.l2i {x : Int64} {z : Int32} (hd : decode code pc = .ok (.l2i, 1)) (hz : x.toInt32 = z) (n : W G K y code ret R Q As Li cells slots (pc + 1) Ls (.int z :: st)) : W G K y code ret R Q As Li cells slots pc Ls (.long x :: st) :=
  W.via rfl n fun T h hx hby tg hr => XS.l2i h hx rfl (hb hby hd) rfl (by subst hz; exact hr)
theorem W.i2b {x : Int32} {z : Int32} (hd : decode code pc = .ok (.i2b, 1)) (hz : x.toInt8.toInt32 = z) (n : W G K y code ret R Q As Li cells slots (pc + 1) Ls (.int z :: st)) : W G K y code ret R Q As Li cells slots pc Ls (.int x :: st) :=
  W.via rfl n fun T h hx hby tg hr => XS.i2b h hx rfl (hb hby hd) rfl (by subst hz; exact hr)
theorem W.i2c {x : Int32} {z : Int32} (hd : decode code pc = .ok (.i2c, 1)) (hz : x.toUInt32.toUInt16.toUInt32.toInt32 = z) (n : W G K y code ret R Q As Li cells slots (pc + 1) Ls (.int z :: st)) : W G K y code ret R Q As Li cells slots pc Ls (.int x :: st) :=
  W.via rfl n fun T h hx hby tg hr => XS.i2c h hx rfl (hb hby hd) rfl (by subst hz; exact hr)
theorem W.i2s {x : Int32} {z : Int32} (hd : decode code pc = .ok (.i2s, 1)) (hz : x.toInt16.toInt32 = z) (n : W G K y code ret R Q As Li cells slots (pc + 1) Ls (.int z :: st)) : W G K y code ret R Q As Li cells slots pc Ls (.int x :: st) :=
  W.via rfl n fun T h hx hby tg hr => XS.i2s h hx rfl (hb hby hd) rfl (by subst hz; exact hr)
theorem W.lcmp {x u : Int64} {z : Int32} (hd : decode code pc = .ok (.lcmp, 1)) (hz : lcmpW x u = z) (n : W G K y code ret R Q As Li cells slots (pc + 1) Ls (.int z :: st)) : W G K y code ret R Q As Li cells slots pc Ls (.long u :: .long x :: st) :=
  W.via rfl n fun T h hx hby tg hr => XS.lcmp h hx rfl (hb hby hd) rfl (by subst hz; exact hr)
theorem W.lshl {x z : Int64} {u : Int32} (hd : decode code pc = .ok (.lshl, 1)) (hz : x <<< (u &&& 0x3f).toInt64 = z) (n : W G K y code ret R Q As Li cells slots (pc + 1) Ls (.long z :: st)) : W G K y code ret R Q As Li cells slots pc Ls (.int u :: .long x :: st) :=
  W.via rfl n fun T h hx hby tg hr => XS.lshl h hx rfl (hb hby hd) rfl (by subst hz; exact hr)
theorem W.lshr {x z : Int64} {u : Int32} (hd : decode code pc = .ok (.lshr, 1)) (hz : x >>> (u &&& 0x3f).toInt64 = z) (n : W G K y code ret R Q As Li cells slots (pc + 1) Ls (.long z :: st)) : W G K y code ret R Q As Li cells slots pc Ls (.int u :: .long x :: st) :=
  W.via rfl n fun T h hx hby tg hr => XS.lshr h hx rfl (hb hby hd) rfl (by subst hz; exact hr)
theorem W.lushr {x z : Int64} {u : Int32} (hd : decode code pc = .ok (.lushr, 1)) (hz : (x.toUInt64 >>> (u &&& 0x3f).toInt64.toUInt64).toInt64 = z) (n : W G K y code ret R Q As Li cells slots (pc + 1) Ls (.long z :: st)) : W G K y code ret R Q As Li cells slots pc Ls (.int u :: .long x :: st) :=
  W.via rfl n fun T h hx hby tg hr => XS.lushr h hx rfl (hb hby hd) rfl (by subst hz; exact hr)
theorem W.dup {x : Value} (hd : decode code pc = .ok (.dup, 1)) (hc : x.category = 1) (n : W G K y code ret R Q As Li cells slots (pc + 1) Ls (x :: x :: st)) : W G K y code ret R Q As Li cells slots pc Ls (x :: st) :=
  W.via rfl n fun T h hx hby tg hr => XS.dup h hx rfl (hb hby hd) rfl hc hr
theorem W.pop {x : Value} (hd : decode code pc = .ok (.pop, 1)) (hc : x.category = 1) (n : W G K y code ret R Q As Li cells slots (pc + 1) Ls st) : W G K y code ret R Q As Li cells slots pc Ls (x :: st) :=
  W.via rfl n fun T h hx hby tg hr => XS.pop h hx rfl (hb hby hd) rfl hc hr
theorem W.dupX1 {x z : Value} (hd : decode code pc = .ok (.dup_x1, 1)) (hc : x.category = 1) (hc' : z.category = 1) (n : W G K y code ret R Q As Li cells slots (pc + 1) Ls (x :: z :: x :: st)) : W G K y code ret R Q As Li cells slots pc Ls (x :: z :: st) :=
  W.via rfl n fun T h hx hby tg hr => XS.dupX1 h hx rfl (hb hby hd) rfl hc hc' hr
theorem W.dup2 {x z : Value} (hd : decode code pc = .ok (.dup2, 1)) (hc : x.category = 1) (hc' : z.category = 1) (n : W G K y code ret R Q As Li cells slots (pc + 1) Ls (x :: z :: x :: z :: st)) : W G K y code ret R Q As Li cells slots pc Ls (x :: z :: st) :=
  W.via rfl n fun T h hx hby tg hr => Jvm.Free.XT.dup2 h hx rfl (hb hby hd) rfl hc hc' hr
theorem W.goto {o : Int} (pc' : Nat) (hd : decode code pc = .ok (.goto o, 3)) (ho : 0 ≤ (pc : Int) + o) (hp : ((pc : Int) + o).toNat = pc') (n : W G K y code ret R Q As Li cells slots pc' Ls st) : W G K y code ret R Q As Li cells slots pc Ls st :=
  W.via rfl n fun T h hx hby tg hr => XS.goto h hx rfl rfl (hb hby hd) ho hp hr
theorem W.if1 {cd : ClassFile.Cond} {o : Int} {x : Int32} (pc' : Nat) (hd : decode code pc = .ok (.ifCond cd o, 3)) (ho : 0 ≤ (pc : Int) + o) (hp : ((pc : Int) + o).toNat = pc') (hc : ifCond.holds cd x = true) (n : W G K y code ret R Q As Li cells slots pc' Ls st) : W G K y code ret R Q As Li cells slots pc Ls (.int x :: st) :=
  W.via rfl n fun T h hx hby tg hr => XS.ifYes h hx rfl rfl (hb hby hd) rfl hc ho hp hr
theorem W.if0 {cd : ClassFile.Cond} {o : Int} {x : Int32} (hd : decode code pc = .ok (.ifCond cd o, 3)) (hc : ifCond.holds cd x = false) (n : W G K y code ret R Q As Li cells slots (pc + 3) Ls st) : W G K y code ret R Q As Li cells slots pc Ls (.int x :: st) :=
  W.via rfl n fun T h hx hby tg hr => XS.ifNo h hx rfl (hb hby hd) rfl hc hr
theorem W.ic1 {cd : ClassFile.Cond} {o : Int} {x z : Int32} (pc' : Nat) (hd : decode code pc = .ok (.if_icmp cd o, 3)) (ho : 0 ≤ (pc : Int) + o) (hp : ((pc : Int) + o).toNat = pc') (hc : if_icmp.holds cd x z = true) (n : W G K y code ret R Q As Li cells slots pc' Ls st) : W G K y code ret R Q As Li cells slots pc Ls (.int z :: .int x :: st) :=
  W.via rfl n fun T h hx hby tg hr => XS.icmpYes h hx rfl rfl (hb hby hd) rfl hc ho hp hr
theorem W.ic0 {cd : ClassFile.Cond} {o : Int} {x z : Int32} (hd : decode code pc = .ok (.if_icmp cd o, 3)) (hc : if_icmp.holds cd x z = false) (n : W G K y code ret R Q As Li cells slots (pc + 3) Ls st) : W G K y code ret R Q As Li cells slots pc Ls (.int z :: .int x :: st) :=
  W.via rfl n fun T h hx hby tg hr => XS.icmpNo h hx rfl (hb hby hd) rfl hc hr
theorem W.nullY {o : Int} (pc' : Nat) (hd : decode code pc = .ok (.ifnull o, 3)) (ho : 0 ≤ (pc : Int) + o) (hp : ((pc : Int) + o).toNat = pc') (n : W G K y code ret R Q As Li cells slots pc' Ls st) : W G K y code ret R Q As Li cells slots pc Ls (.null :: st) :=
  W.via rfl n fun T h hx hby tg hr => XS.ifnullYes h hx rfl rfl (hb hby hd) rfl ho hp hr
theorem W.nullN {o : Int} {b : Addr} (hd : decode code pc = .ok (.ifnull o, 3)) (n : W G K y code ret R Q As Li cells slots (pc + 3) Ls st) : W G K y code ret R Q As Li cells slots pc Ls (.ref b :: st) :=
  W.via rfl n fun T h hx hby tg hr => XS.ifnullNo h hx rfl (hb hby hd) rfl hr
theorem W.nonnullY {o : Int} {b : Addr} (pc' : Nat) (hd : decode code pc = .ok (.ifnonnull o, 3)) (ho : 0 ≤ (pc : Int) + o) (hp : ((pc : Int) + o).toNat = pc') (n : W G K y code ret R Q As Li cells slots pc' Ls st) : W G K y code ret R Q As Li cells slots pc Ls (.ref b :: st) :=
  W.via rfl n fun T h hx hby tg hr => XS.ifnonnullYes h hx rfl rfl (hb hby hd) rfl ho hp hr
theorem W.nonnullN {o : Int} (hd : decode code pc = .ok (.ifnonnull o, 3)) (n : W G K y code ret R Q As Li cells slots (pc + 3) Ls st) : W G K y code ret R Q As Li cells slots pc Ls (.null :: st) :=
  W.via rfl n fun T h hx hby tg hr => XS.ifnonnullNo h hx rfl (hb hby hd) rfl hr
theorem W.ac1 {cd : ClassFile.ACond} {o : Int} {x z : Value} (pc' : Nat) (hd : decode code pc = .ok (.if_acmp cd o, 3)) (ho : 0 ≤ (pc : Int) + o) (hp : ((pc : Int) + o).toNat = pc') (h1 : x.isRef = true) (h2 : z.isRef = true) (hc : Jvm.Free.XT.acmp cd x z = true) (n : W G K y code ret R Q As Li cells slots pc' Ls st) : W G K y code ret R Q As Li cells slots pc Ls (z :: x :: st) :=
  W.via rfl n fun T h hx hby tg hr => Jvm.Free.XT.acmpYes h hx rfl rfl (hb hby hd) rfl h1 h2 hc ho hp hr
theorem W.ac0 {cd : ClassFile.ACond} {o : Int} {x z : Value} (hd : decode code pc = .ok (.if_acmp cd o, 3)) (h1 : x.isRef = true) (h2 : z.isRef = true) (hc : Jvm.Free.XT.acmp cd x z = false) (n : W G K y code ret R Q As Li cells slots (pc + 3) Ls st) : W G K y code ret R Q As Li cells slots pc Ls (z :: x :: st) :=
  W.via rfl n fun T h hx hby tg hr => Jvm.Free.XT.acmpNo h hx rfl (hb hby hd) rfl h1 h2 hc hr
theorem W.if_eq {o : Int} {x : Int32} (pc' : Nat) (hd : decode code pc = .ok (.ifCond .eq o, 3)) (ho : 0 ≤ (pc : Int) + o) (hp : ((pc : Int) + o).toNat = pc') (n1 : x = (0 : Int32) → W G K y code ret R Q As Li cells slots pc' Ls st) (n0 : ¬ x = (0 : Int32) → W G K y code ret R Q As Li cells slots (pc + 3) Ls st) : W G K y code ret R Q As Li cells slots pc Ls (.int x :: st) := by
  by_cases h : x = (0 : Int32)
  · exact W.if1 pc' hd ho hp ((Jvm.RoadKit.if0 _ _).trans (teq h).1) (n1 h)
  · exact W.if0 hd ((Jvm.RoadKit.if0 _ _).trans (feq h).1) (n0 h)
theorem W.ic_eq {o : Int} {x z : Int32} (pc' : Nat) (hd : decode code pc = .ok (.if_icmp .eq o, 3)) (ho : 0 ≤ (pc : Int) + o) (hp : ((pc : Int) + o).toNat = pc') (n1 : x = z → W G K y code ret R Q As Li cells slots pc' Ls st) (n0 : ¬ x = z → W G K y code ret R Q As Li cells slots (pc + 3) Ls st) : W G K y code ret R Q As Li cells slots pc Ls (.int z :: .int x :: st) := by
  by_cases h : x = z
  · exact W.ic1 pc' hd ho hp (teq h).1 (n1 h)
  · exact W.ic0 hd (feq h).1 (n0 h)
theorem W.if_ne {o : Int} {x : Int32} (pc' : Nat) (hd : decode code pc = .ok (.ifCond .ne o, 3)) (ho : 0 ≤ (pc : Int) + o) (hp : ((pc : Int) + o).toNat = pc') (n1 : ¬ x = (0 : Int32) → W G K y code ret R Q As Li cells slots pc' Ls st) (n0 : x = (0 : Int32) → W G K y code ret R Q As Li cells slots (pc + 3) Ls st) : W G K y code ret R Q As Li cells slots pc Ls (.int x :: st) := by
  by_cases h : x = (0 : Int32)
  · exact W.if0 hd ((Jvm.RoadKit.if0 _ _).trans (teq h).2) (n0 h)
  · exact W.if1 pc' hd ho hp ((Jvm.RoadKit.if0 _ _).trans (feq h).2) (n1 h)
theorem W.ic_ne {o : Int} {x z : Int32} (pc' : Nat) (hd : decode code pc = .ok (.if_icmp .ne o, 3)) (ho : 0 ≤ (pc : Int) + o) (hp : ((pc : Int) + o).toNat = pc') (n1 : ¬ x = z → W G K y code ret R Q As Li cells slots pc' Ls st) (n0 : x = z → W G K y code ret R Q As Li cells slots (pc + 3) Ls st) : W G K y code ret R Q As Li cells slots pc Ls (.int z :: .int x :: st) := by
  by_cases h : x = z
  · exact W.ic0 hd (teq h).2 (n0 h)
  · exact W.ic1 pc' hd ho hp (feq h).2 (n1 h)
theorem W.if_lt {o : Int} {x : Int32} (pc' : Nat) (hd : decode code pc = .ok (.ifCond .lt o, 3)) (ho : 0 ≤ (pc : Int) + o) (hp : ((pc : Int) + o).toNat = pc') (n1 : x < (0 : Int32) → W G K y code ret R Q As Li cells slots pc' Ls st) (n0 : ¬ x < (0 : Int32) → W G K y code ret R Q As Li cells slots (pc + 3) Ls st) : W G K y code ret R Q As Li cells slots pc Ls (.int x :: st) := by
  by_cases h : x < (0 : Int32)
  · exact W.if1 pc' hd ho hp ((Jvm.RoadKit.if0 _ _).trans (tlt h).1) (n1 h)
  · exact W.if0 hd ((Jvm.RoadKit.if0 _ _).trans (flt h).1) (n0 h)
theorem W.ic_lt {o : Int} {x z : Int32} (pc' : Nat) (hd : decode code pc = .ok (.if_icmp .lt o, 3)) (ho : 0 ≤ (pc : Int) + o) (hp : ((pc : Int) + o).toNat = pc') (n1 : x < z → W G K y code ret R Q As Li cells slots pc' Ls st) (n0 : ¬ x < z → W G K y code ret R Q As Li cells slots (pc + 3) Ls st) : W G K y code ret R Q As Li cells slots pc Ls (.int z :: .int x :: st) := by
  by_cases h : x < z
  · exact W.ic1 pc' hd ho hp (tlt h).1 (n1 h)
  · exact W.ic0 hd (flt h).1 (n0 h)
theorem W.if_ge {o : Int} {x : Int32} (pc' : Nat) (hd : decode code pc = .ok (.ifCond .ge o, 3)) (ho : 0 ≤ (pc : Int) + o) (hp : ((pc : Int) + o).toNat = pc') (n1 : ¬ x < (0 : Int32) → W G K y code ret R Q As Li cells slots pc' Ls st) (n0 : x < (0 : Int32) → W G K y code ret R Q As Li cells slots (pc + 3) Ls st) : W G K y code ret R Q As Li cells slots pc Ls (.int x :: st) := by
  by_cases h : x < (0 : Int32)
  · exact W.if0 hd ((Jvm.RoadKit.if0 _ _).trans (tlt h).2.1) (n0 h)
  · exact W.if1 pc' hd ho hp ((Jvm.RoadKit.if0 _ _).trans (flt h).2.1) (n1 h)
theorem W.ic_ge {o : Int} {x z : Int32} (pc' : Nat) (hd : decode code pc = .ok (.if_icmp .ge o, 3)) (ho : 0 ≤ (pc : Int) + o) (hp : ((pc : Int) + o).toNat = pc') (n1 : ¬ x < z → W G K y code ret R Q As Li cells slots pc' Ls st) (n0 : x < z → W G K y code ret R Q As Li cells slots (pc + 3) Ls st) : W G K y code ret R Q As Li cells slots pc Ls (.int z :: .int x :: st) := by
  by_cases h : x < z
  · exact W.ic0 hd (tlt h).2.1 (n0 h)
  · exact W.ic1 pc' hd ho hp (flt h).2.1 (n1 h)
theorem W.if_gt {o : Int} {x : Int32} (pc' : Nat) (hd : decode code pc = .ok (.ifCond .gt o, 3)) (ho : 0 ≤ (pc : Int) + o) (hp : ((pc : Int) + o).toNat = pc') (n1 : (0 : Int32) < x → W G K y code ret R Q As Li cells slots pc' Ls st) (n0 : ¬ (0 : Int32) < x → W G K y code ret R Q As Li cells slots (pc + 3) Ls st) : W G K y code ret R Q As Li cells slots pc Ls (.int x :: st) := by
  by_cases h : (0 : Int32) < x
  · exact W.if1 pc' hd ho hp ((Jvm.RoadKit.if0 _ _).trans (tlt h).2.2.1) (n1 h)
  · exact W.if0 hd ((Jvm.RoadKit.if0 _ _).trans (flt h).2.2.1) (n0 h)
theorem W.ic_gt {o : Int} {x z : Int32} (pc' : Nat) (hd : decode code pc = .ok (.if_icmp .gt o, 3)) (ho : 0 ≤ (pc : Int) + o) (hp : ((pc : Int) + o).toNat = pc') (n1 : z < x → W G K y code ret R Q As Li cells slots pc' Ls st) (n0 : ¬ z < x → W G K y code ret R Q As Li cells slots (pc + 3) Ls st) : W G K y code ret R Q As Li cells slots pc Ls (.int z :: .int x :: st) := by
  by_cases h : z < x
  · exact W.ic1 pc' hd ho hp (tlt h).2.2.1 (n1 h)
  · exact W.ic0 hd (flt h).2.2.1 (n0 h)
theorem W.if_le {o : Int} {x : Int32} (pc' : Nat) (hd : decode code pc = .ok (.ifCond .le o, 3)) (ho : 0 ≤ (pc : Int) + o) (hp : ((pc : Int) + o).toNat = pc') (n1 : ¬ (0 : Int32) < x → W G K y code ret R Q As Li cells slots pc' Ls st) (n0 : (0 : Int32) < x → W G K y code ret R Q As Li cells slots (pc + 3) Ls st) : W G K y code ret R Q As Li cells slots pc Ls (.int x :: st) := by
  by_cases h : (0 : Int32) < x
  · exact W.if0 hd ((Jvm.RoadKit.if0 _ _).trans (tlt h).2.2.2) (n0 h)
  · exact W.if1 pc' hd ho hp ((Jvm.RoadKit.if0 _ _).trans (flt h).2.2.2) (n1 h)
theorem W.ic_le {o : Int} {x z : Int32} (pc' : Nat) (hd : decode code pc = .ok (.if_icmp .le o, 3)) (ho : 0 ≤ (pc : Int) + o) (hp : ((pc : Int) + o).toNat = pc') (n1 : ¬ z < x → W G K y code ret R Q As Li cells slots pc' Ls st) (n0 : z < x → W G K y code ret R Q As Li cells slots (pc + 3) Ls st) : W G K y code ret R Q As Li cells slots pc Ls (.int z :: .int x :: st) := by
  by_cases h : z < x
  · exact W.ic0 hd (tlt h).2.2.2 (n0 h)
  · exact W.ic1 pc' hd ho hp (flt h).2.2.2 (n1 h)
end Laws
end Jvm.Own
namespace Jvm.Own
open Sem ClassFile Op Lib Jvm.Stand Jvm.Free Jvm.LawKit Jvm.RoadKit
section Laws
variable {G : Gx} {K : Kx} {y : MethodName} {code : ByteArray} {ret : Option FieldType} {R : Room} {Q : Qx} {As As' : List Ent} {Li Li' : List LitE} {cells slots pc pc' : Nat} {Ls Ls' : List Slot} {st st' : List Value}
variable {a b : Addr} {w : Bool} {C O n d R0 host : String} {v x : Value} {fs : List Fd} {vs vs' : List Value} {t ty : FieldType} {idx kk : Nat}
theorem ok_Z {vm0 : Vm} {k0 mL : Nat} (ok : Ok G K y code mL ret) (hS : K.s.Since vm0 k0) : G.Z.Warmed39 (K.s.setVm vm0).vm := State.Warmed39.trans ok.2.2.2.1 hS.1
theorem ok_own {vm0 : Vm} {k0 mL : Nat} (ok : Ok G K y code mL ret) (hS : K.s.Since vm0 k0) : (K.s.setVm vm0).vm.findClass y.cls = some K.m.cls := by
  show vm0.findClass y.cls = _
  rw [hS.1.alike.findClass]; exact ok.2.2.2.2.1
/-! ### fields -/
theorem W.getF (wl : (Cond.fieldLink y.cls idx R0 n d).before G.a0 G.Z = true ∨ (Cond.fieldLinkNest y.cls idx R0 n d host).before G.a0 G.Z = true) (via : Via G.Z R0 O n d) (hd : decode code pc = .ok (.getfield idx, 3))
    (hm : (a, w, obj C fs vs) ∈ As) (hf : FAt fs vs O n d v) (nx : W G K y code ret R Q As Li cells slots (pc + 3) Ls (v :: st)) : W G K y code ret R Q As Li cells slots pc Ls (.ref a :: st) := by
  intro T vm0 k0 locs ok X hS hk hN hI hL hF
  obtain ⟨T', X', e', st'⟩ := Jvm.RoadKit.getF X ok.1 (ok_Z ok hS) (ok_own ok hS) wl via rfl (hI.fld hm hf) (g := mkF K.m pc Ls.toArray (.ref a :: st)) rfl rfl (hb ok.2.1 hd)
  obtain ⟨U, u, h1, h2⟩ := nx T' vm0 k0 locs ok X' hS (by rw [e']; exact hk) hN (by rw [e']; exact hI) hL hF
  exact ⟨U, u, st' _ h1, h2⟩
/-- .. of an object that stood at the start -/
theorem W.getFo (wl : (Cond.fieldLink y.cls idx R0 n d).before G.a0 G.Z = true ∨ (Cond.fieldLinkNest y.cls idx R0 n d host).before G.a0 G.Z = true) (via : Via G.Z R0 O n d) (hd : decode code pc = .ok (.getfield idx, 3))
    (F : Fld G.Z G.Z.heap a O n d v) (nx : W G K y code ret R Q As Li cells slots (pc + 3) Ls (v :: st)) : W G K y code ret R Q As Li cells slots pc Ls (.ref a :: st) := by
  intro T vm0 k0 locs ok X hS hk hN hI hL hF
  obtain ⟨T', X', e', st'⟩ := Jvm.RoadKit.getF X ok.1 (ok_Z ok hS) (ok_own ok hS) wl via rfl (F.ext hI.old) (g := mkF K.m pc Ls.toArray (.ref a :: st)) rfl rfl (hb ok.2.1 hd)
  obtain ⟨U, u, h1, h2⟩ := nx T' vm0 k0 locs ok X' hS (by rw [e']; exact hk) hN (by rw [e']; exact hI) hL hF
  exact ⟨U, u, st' _ h1, h2⟩
theorem W.putF (wl : (Cond.fieldLink y.cls idx R0 n d).before G.a0 G.Z = true ∨ (Cond.fieldLinkNest y.cls idx R0 n d host).before G.a0 G.Z = true) (via : Via G.Z R0 O n d) (hd : decode code pc = .ok (.putfield idx, 3))
    (L : (Cond.lays C O n d).before G.a0 G.Z = true ∨ ((Cond.laysFinal C O n d).before G.a0 G.Z = true ∧ y.cls = O ∧ y.name = "<init>")) (wi : (Cond.instantiable C kk).before G.a0 G.Z = true)
    (hty : parseFieldDescriptor d = some ty) (hn : narrow ty x = x) (hf : fits ty x = true)
    (u : Upd As a (obj C fs vs) (obj C fs vs') As') (q : FUp fs vs O n d x vs') (nx : W G K y code ret R Q As' Li cells slots (pc + 3) Ls st) : W G K y code ret R Q As Li cells slots pc Ls (x :: .ref a :: st) := by
  intro T vm0 k0 locs ok X hS hk hN hI hL hF
  have hm := u.mem
  obtain ⟨i, q1, q2, -⟩ := id q
  have F0 : Fld G.Z T.heap a O n d vs[i] := (hI.2.2 _ hm).2.2.2.1 i _ _ q1 (List.getElem?_eq_getElem q2)
  obtain ⟨T', h', X', e', W', st'⟩ := Jvm.RoadKit.putF X ok.1 (ok_Z ok hS) (ok_own ok hS) wl via rfl F0 (hI.exa hm) (L.imp id fun r => ⟨r.1, r.2.1, ok.2.2.2.2.2.1.trans r.2.2⟩) wi hty hn hf (g := mkF K.m pc Ls.toArray (x :: .ref a :: st)) rfl rfl (hb ok.2.1 hd)
  obtain ⟨U, u', h1, h2⟩ := nx T' vm0 k0 _ ok X' hS (by rw [e', W'.size]; exact hk) hN (by rw [e']; exact hI.wrF u q W') hL (Fr.snoc X' hF ((hI.2.2 _ hm).1 rfl))
  exact ⟨U, u', st' _ h1, h2⟩
/-- a boolean, byte, char or short: what the field keeps of the int -/
theorem W.putN (wl : (Cond.fieldLink y.cls idx R0 n d).before G.a0 G.Z = true) (via : Via G.Z R0 O n d) (hd : decode code pc = .ok (.putfield idx, 3))
    (L : (Cond.lays C O n d).before G.a0 G.Z = true ∨ ((Cond.laysFinal C O n d).before G.a0 G.Z = true ∧ y.cls = O ∧ y.name = "<init>")) (wi : (Cond.instantiable C kk).before G.a0 G.Z = true)
    {x' : Value} (hty : parseFieldDescriptor d = some ty) (hn : narrow ty x = x') (hf : fits ty x' = true)
    (u : Upd As a (obj C fs vs) (obj C fs vs') As') (q : FUp fs vs O n d x' vs') (nx : W G K y code ret R Q As' Li cells slots (pc + 3) Ls st) : W G K y code ret R Q As Li cells slots pc Ls (x :: .ref a :: st) := by
  intro T vm0 k0 locs ok X hS hk hN hI hL hF
  have hm := u.mem
  obtain ⟨i, q1, q2, -⟩ := id q
  have F0 : Fld G.Z T.heap a O n d vs[i] := (hI.2.2 _ hm).2.2.2.1 i _ _ q1 (List.getElem?_eq_getElem q2)
  obtain ⟨T', h', X', e', W', st'⟩ := Jvm.RoadKit.putFN X ok.1 (ok_Z ok hS) (ok_own ok hS) wl via rfl F0 (hI.exa hm) (L.imp id fun r => ⟨r.1, r.2.1, ok.2.2.2.2.2.1.trans r.2.2⟩) wi hty hn hf (g := mkF K.m pc Ls.toArray (x :: .ref a :: st)) rfl rfl (hb ok.2.1 hd)
  obtain ⟨U, u', h1, h2⟩ := nx T' vm0 k0 _ ok X' hS (by rw [e', W'.size]; exact hk) hN (by rw [e']; exact hI.wrF u q W') hL (Fr.snoc X' hF ((hI.2.2 _ hm).1 rfl))
  exact ⟨U, u', st' _ h1, h2⟩
theorem W.getS (wl : (Cond.fieldLink y.cls idx R0 n d).before G.a0 G.Z = true ∨ (Cond.fieldLinkNest y.cls idx R0 n d host).before G.a0 G.Z = true) (via : Via G.Z R0 O n d) (hd : decode code pc = .ok (.getstatic idx, 3))
    (F : Sta G.Z G.Z.heap O n d v) (nx : W G K y code ret R Q As Li cells slots (pc + 3) Ls (v :: st)) : W G K y code ret R Q As Li cells slots pc Ls st := by
  intro T vm0 k0 locs ok X hS hk hN hI hL hF
  obtain ⟨T', X', e', st'⟩ := getS2 X ok.1 (ok_Z ok hS) (ok_own ok hS) wl via rfl (F.ext hI.old) (g := mkF K.m pc Ls.toArray st) rfl (hb ok.2.1 hd)
  obtain ⟨U, u, h1, h2⟩ := nx T' vm0 k0 locs ok X' hS (by rw [e']; exact hk) hN (by rw [e']; exact hI) hL hF
  exact ⟨U, u, st' _ h1, h2⟩
/-! ### objects and arrays are made -/
def dv (d : String) : Value := defaultValue ((parseFieldDescriptor d).getD .int)
theorem W.new (wl : (Cond.classLink y.cls idx C).before G.a0 G.Z = true) (wi : (Cond.instantiable C kk).before G.a0 G.Z = true) (wz : (Cond.initialized C).before G.a0 G.Z = true) (hd : decode code pc = .ok (.new idx, 3))
    (hl : LaidAll G.Z G.a0 C fs) (hv : (fs.map fun f => dv f.2.2) = vs) (hc : cells + 1 ≤ R.cells) (hs : slots + kk ≤ R.slots)
    (nx : ∀ a, W G K y code ret R Q ((a, true, obj C fs vs) :: As) Li (cells + 1) (slots + kk) (pc + 3) Ls (.ref a :: st)) : W G K y code ret R Q As Li cells slots pc Ls st := by
  intro T vm0 k0 locs ok X hS hk hN hI hL hF
  obtain ⟨T', h', X', e', E, A, D, -, st'⟩ := newO X ok.1 (ok_Z ok hS) (ok_own ok hS) wl wi wz rfl (g := mkF K.m pc Ls.toArray st) rfl (hb ok.2.1 hd) hc hs
  have hD : Des G.Z G.a0 h' T.heap.size true (obj C fs vs) := by
    subst hv
    refine ⟨A, by simp, fun i f v hf hv => ?_, fun _ => hl⟩
    rw [List.getElem?_map, hf] at hv
    cases hv
    obtain ⟨L1, t, ht⟩ := hl.2 f (List.mem_of_getElem? hf)
    have q := D L1 ht
    simpa [dv, ht] using q
  obtain ⟨U, u, h1, h2⟩ := nx T.heap.size T' vm0 k0 locs ok X' hS (by rw [e']; exact Nat.le_trans hk E.1) hN (by rw [e']; exact hI.push E hD) hL hF
  exact ⟨U, u, st' _ h1, h2⟩
theorem AV.of_new {Z : State} {h : Heap} {cA : ClassId} {z : Int32} (A : Arr Z h a (newA cA t z) t) (hO : ∀ C, t = .object C → Ovr Z cA C) : AV Z h a true t (List.replicate z.toNatClampNeg (defaultValue t)) := by
  refine ⟨_, A, by simp [newA], ?_, fun v hv => ?_, fun _ => hO⟩
  · have := Int32.toInt_lt z
    rw [List.length_replicate]; simp only [Int32.toNatClampNeg]; omega
  · rw [List.eq_of_mem_replicate hv]; cases t <;> rfl
theorem W.newP {aty : ArrayType} {z : Int32} (cap : Nat) (wl : (Cond.arrayClass (newarray.typeOf aty)).before G.a0 G.Z = true) (hd : decode code pc = .ok (.newarray aty, 2)) (ht : newarray.typeOf aty = t) (hz : ¬ z < 0) (hcap : z.toNatClampNeg ≤ cap) (hb8 : cap * 8 ≤ 536870912)
    (hv : List.replicate z.toNatClampNeg (defaultValue t) = vs) (hc : cells + 1 ≤ R.cells) (hs : slots + cap ≤ R.slots)
    (nx : ∀ a, W G K y code ret R Q ((a, true, arr t vs) :: As) Li (cells + 1) (slots + cap) (pc + 2) Ls (.ref a :: st)) : W G K y code ret R Q As Li cells slots pc Ls (.int z :: st) := by
  intro T vm0 k0 locs ok X hS hk hN hI hL hF
  obtain ⟨T', h', cA, X', e', E, A, st'⟩ := Jvm.RoadKit.newP X ok.1 (ok_Z ok hS) wl rfl (g := mkF K.m pc Ls.toArray (.int z :: st)) rfl (hb ok.2.1 hd) rfl hz hcap hb8 hc hs
  have hD : Des G.Z G.a0 h' T.heap.size true (arr t vs) := by
    subst hv; subst ht
    exact AV.of_new A (fun C e => by cases aty <;> cases e)
  obtain ⟨U, u, h1, h2⟩ := nx T.heap.size T' vm0 k0 locs ok X' hS (by rw [e']; exact Nat.le_trans hk E.1) hN (by rw [e']; exact hI.push E hD) hL hF
  exact ⟨U, u, st' _ h1, h2⟩
theorem W.newR {z : Int32} (cap : Nat) (wl : (Cond.classLink y.cls idx C).before G.a0 G.Z = true) (wo : (Cond.arrayOver (.object C)).before G.a0 G.Z = true) (hd : decode code pc = .ok (.anewarray idx, 3)) (hz : ¬ z < 0) (hcap : z.toNatClampNeg ≤ cap) (hb8 : cap * 8 ≤ 536870912)
    (hv : List.replicate z.toNatClampNeg Value.null = vs) (hc : cells + 1 ≤ R.cells) (hs : slots + cap ≤ R.slots)
    (nx : ∀ a, W G K y code ret R Q ((a, true, arr (.object C) vs) :: As) Li (cells + 1) (slots + cap) (pc + 3) Ls (.ref a :: st)) : W G K y code ret R Q As Li cells slots pc Ls (.int z :: st) := by
  intro T vm0 k0 locs ok X hS hk hN hI hL hF
  obtain ⟨T', h', cA, X', e', E, A, O, st'⟩ := Jvm.RoadKit.newR X ok.1 (ok_Z ok hS) (ok_own ok hS) wl wo rfl (g := mkF K.m pc Ls.toArray (.int z :: st)) rfl (hb ok.2.1 hd) rfl hz hcap hb8 hc hs
  have hD : Des G.Z G.a0 h' T.heap.size true (arr (.object C) vs) := by
    subst hv
    exact AV.of_new A (fun C' e => by cases e; exact O)
  obtain ⟨U, u, h1, h2⟩ := nx T.heap.size T' vm0 k0 locs ok X' hS (by rw [e']; exact Nat.le_trans hk E.1) hN (by rw [e']; exact hI.push E hD) hL hF
  exact ⟨U, u, st' _ h1, h2⟩
/-! ### arrays -/
theorem size_of {c : Cell} (e : c.slots.toList = vs) : c.slots.size = vs.length := by rw [← e]; simp
/-- what the walk knows of an array: its own, or one that stood at the start -/
def AVin (G : Gx) (As : List Ent) (a : Addr) (t : FieldType) (vs : List Value) : Prop := (∃ w, (a, w, arr t vs) ∈ As) ∨ AV G.Z G.Z.heap a false t vs
theorem AVin.mem (hm : (a, w, arr t vs) ∈ As) : AVin G As a t vs := Or.inl ⟨w, hm⟩
theorem AVin.old (A : AV G.Z G.Z.heap a false t vs) : AVin G As a t vs := Or.inr A
theorem AVin.get {h : Heap} (q : AVin G As a t vs) (I : Inv G As h) : AV G.Z h a false t vs := by
  rcases q with ⟨w, hm⟩ | ⟨c, A, r⟩
  · obtain ⟨c, A, e1, e2, e3, -⟩ := I.av hm
    exact ⟨c, A, e1, e2, e3, fun q => nomatch q⟩
  · exact ⟨c, A.ext I.old, r⟩
theorem W.alen {z : Int32} (hd : decode code pc = .ok (.arraylength, 1)) (hm : AVin G As a t vs) (hz : vs.length.toInt32 = z) (nx : W G K y code ret R Q As Li cells slots (pc + 1) Ls (.int z :: st)) : W G K y code ret R Q As Li cells slots pc Ls (.ref a :: st) := by
  intro T vm0 k0 locs ok X hS hk hN hI hL hF
  obtain ⟨c, A, e1, e2, e3, e4⟩ := hm.get hI
  obtain ⟨U, u, h1, h2⟩ := nx T vm0 k0 locs ok X hS hk hN hI hL hF
  refine ⟨U, u, X.arraylength ok.1 A.1 (State.isArrayOf_alike (ok_Z ok hS).alike A.2.1) (g := mkF K.m pc Ls.toArray (.ref a :: st)) rfl rfl (hb ok.2.1 hd) _ ?_, h2⟩
  rw [size_of e1, hz]; exact h1
theorem in_of {c : Cell} {j : Int32} (e : c.slots.toList = vs) (hj : ¬ j < 0) (hv : vs[j.toNatClampNeg]? = some v) : ¬ (j < 0 ∨ c.slots.size ≤ j.toNatClampNeg) ∧ c.slots[j.toNatClampNeg]? = some v := by
  refine ⟨fun q => q.elim hj fun r => ?_, ?_⟩
  · rw [size_of e] at r; exact absurd (List.getElem?_eq_some_iff.mp hv).1 (Nat.not_lt.mpr r)
  · rw [← Array.getElem?_toList, e]; exact hv
theorem W.iaload {j : Int32} (hd : decode code pc = .ok (.iaload, 1)) (hm : AVin G As a .int vs) (hj : ¬ j < 0) (hv : vs[j.toNatClampNeg]? = some v) (nx : W G K y code ret R Q As Li cells slots (pc + 1) Ls (v :: st)) : W G K y code ret R Q As Li cells slots pc Ls (.int j :: .ref a :: st) := by
  intro T vm0 k0 locs ok X hS hk hN hI hL hF
  obtain ⟨c, A, e1, -⟩ := hm.get hI
  obtain ⟨i1, i2⟩ := in_of e1 hj hv
  obtain ⟨U, u, h1, h2⟩ := nx T vm0 k0 locs ok X hS hk hN hI hL hF
  exact ⟨U, u, X.iaload ok.1 A.1 (State.isArrayOf_alike (ok_Z ok hS).alike A.2.1) A.2.2 i1 i2 (g := mkF K.m pc Ls.toArray (.int j :: .ref a :: st)) rfl rfl (hb ok.2.1 hd) _ h1, h2⟩
theorem W.laload {j : Int32} (hd : decode code pc = .ok (.laload, 1)) (hm : AVin G As a .long vs) (hj : ¬ j < 0) (hv : vs[j.toNatClampNeg]? = some v) (nx : W G K y code ret R Q As Li cells slots (pc + 1) Ls (v :: st)) : W G K y code ret R Q As Li cells slots pc Ls (.int j :: .ref a :: st) := by
  intro T vm0 k0 locs ok X hS hk hN hI hL hF
  obtain ⟨c, A, e1, -⟩ := hm.get hI
  obtain ⟨i1, i2⟩ := in_of e1 hj hv
  obtain ⟨U, u, h1, h2⟩ := nx T vm0 k0 locs ok X hS hk hN hI hL hF
  exact ⟨U, u, X.laload ok.1 A.1 (State.isArrayOf_alike (ok_Z ok hS).alike A.2.1) A.2.2 i1 i2 (g := mkF K.m pc Ls.toArray (.int j :: .ref a :: st)) rfl rfl (hb ok.2.1 hd) _ h1, h2⟩
theorem W.caload {j : Int32} (hd : decode code pc = .ok (.caload, 1)) (hm : AVin G As a .char vs) (hj : ¬ j < 0) (hv : vs[j.toNatClampNeg]? = some v) (nx : W G K y code ret R Q As Li cells slots (pc + 1) Ls (v :: st)) : W G K y code ret R Q As Li cells slots pc Ls (.int j :: .ref a :: st) := by
  intro T vm0 k0 locs ok X hS hk hN hI hL hF
  obtain ⟨c, A, e1, -⟩ := hm.get hI
  obtain ⟨i1, i2⟩ := in_of e1 hj hv
  obtain ⟨U, u, h1, h2⟩ := nx T vm0 k0 locs ok X hS hk hN hI hL hF
  exact ⟨U, u, X.caload ok.1 A.1 (State.isArrayOf_alike (ok_Z ok hS).alike A.2.1) A.2.2 i1 i2 (g := mkF K.m pc Ls.toArray (.int j :: .ref a :: st)) rfl rfl (hb ok.2.1 hd) _ h1, h2⟩
theorem W.saload {j : Int32} (hd : decode code pc = .ok (.saload, 1)) (hm : AVin G As a .short vs) (hj : ¬ j < 0) (hv : vs[j.toNatClampNeg]? = some v) (nx : W G K y code ret R Q As Li cells slots (pc + 1) Ls (v :: st)) : W G K y code ret R Q As Li cells slots pc Ls (.int j :: .ref a :: st) := by
  intro T vm0 k0 locs ok X hS hk hN hI hL hF
  obtain ⟨c, A, e1, -⟩ := hm.get hI
  obtain ⟨i1, i2⟩ := in_of e1 hj hv
  obtain ⟨U, u, h1, h2⟩ := nx T vm0 k0 locs ok X hS hk hN hI hL hF
  exact ⟨U, u, X.saload ok.1 A.1 (State.isArrayOf_alike (ok_Z ok hS).alike A.2.1) A.2.2 i1 i2 (g := mkF K.m pc Ls.toArray (.int j :: .ref a :: st)) rfl rfl (hb ok.2.1 hd) _ h1, h2⟩
theorem W.baload {j : Int32} (hd : decode code pc = .ok (.baload, 1)) (hm : AVin G As a .byte vs) (hj : ¬ j < 0) (hv : vs[j.toNatClampNeg]? = some v) (nx : W G K y code ret R Q As Li cells slots (pc + 1) Ls (v :: st)) : W G K y code ret R Q As Li cells slots pc Ls (.int j :: .ref a :: st) := by
  intro T vm0 k0 locs ok X hS hk hN hI hL hF
  obtain ⟨c, A, e1, -⟩ := hm.get hI
  obtain ⟨i1, i2⟩ := in_of e1 hj hv
  obtain ⟨U, u, h1, h2⟩ := nx T vm0 k0 locs ok X hS hk hN hI hL hF
  exact ⟨U, u, X.baloadBytes ok.1 A.1 (State.isArrayOf_alike (ok_Z ok hS).alike A.2.1) A.2.2 i1 i2 (g := mkF K.m pc Ls.toArray (.int j :: .ref a :: st)) rfl rfl (hb ok.2.1 hd) _ h1, h2⟩
theorem W.aaload {j : Int32} (hd : decode code pc = .ok (.aaload, 1)) (hm : AVin G As a t vs) (hr : t.isReference = true) (hj : ¬ j < 0) (hv : vs[j.toNatClampNeg]? = some v) (nx : W G K y code ret R Q As Li cells slots (pc + 1) Ls (v :: st)) : W G K y code ret R Q As Li cells slots pc Ls (.int j :: .ref a :: st) := by
  intro T vm0 k0 locs ok X hS hk hN hI hL hF
  obtain ⟨c, A, e1, -⟩ := hm.get hI
  obtain ⟨i1, i2⟩ := in_of e1 hj hv
  obtain ⟨U, u, h1, h2⟩ := nx T vm0 k0 locs ok X hS hk hN hI hL hF
  exact ⟨U, u, X.aaload ok.1 A.1 (State.isArrayOf_alike (ok_Z ok hS).alike A.2.1) hr A.2.2 i1 i2 (g := mkF K.m pc Ls.toArray (.int j :: .ref a :: st)) rfl rfl (hb ok.2.1 hd) _ h1, h2⟩
theorem W.iastore {j z : Int32} {i : Nat} {u : Value} (hd : decode code pc = .ok (.iastore, 1)) (hj : ¬ j < 0) (hi : j.toNatClampNeg = i) (hl : i < vs.length) (hu : (.int z) = u) (hv : vs.set i u = vs') (up : Upd As a (arr .int vs) (arr .int vs') As')
    (nx : W G K y code ret R Q As' Li cells slots (pc + 1) Ls st) : W G K y code ret R Q As Li cells slots pc Ls (.int z :: .int j :: .ref a :: st) := by
  intro T vm0 k0 locs ok X hS hk hN hI hL hF
  have hm := up.mem
  obtain ⟨c, A, e1, e2, e3, e4⟩ := hI.av hm
  subst hi; subst hu; subst hv
  have i1 : ¬ (j < 0 ∨ c.slots.size ≤ j.toNatClampNeg) := fun q => q.elim hj fun r => by rw [size_of e1] at r; exact absurd hl (Nat.not_lt.mpr r)
  obtain ⟨T', h', X', e', W', st'⟩ := stI X ok.1 (ok_Z ok hS) rfl A i1 (g := mkF K.m pc Ls.toArray (.int z :: .int j :: .ref a :: st)) rfl rfl (hb ok.2.1 hd)
  obtain ⟨U, u', h1, h2⟩ := nx T' vm0 k0 _ ok X' hS (by rw [e', W'.size]; exact hk) hN (by rw [e']; exact hI.wrA A up rfl W') hL (Fr.snoc X' hF ((hI.2.2 _ hm).1 rfl))
  exact ⟨U, u', st' _ h1, h2⟩
theorem W.castore {j z : Int32} {i : Nat} {u : Value} (hd : decode code pc = .ok (.castore, 1)) (hj : ¬ j < 0) (hi : j.toNatClampNeg = i) (hl : i < vs.length) (hu : (.int (nar .char z)) = u) (hv : vs.set i u = vs') (up : Upd As a (arr .char vs) (arr .char vs') As')
    (nx : W G K y code ret R Q As' Li cells slots (pc + 1) Ls st) : W G K y code ret R Q As Li cells slots pc Ls (.int z :: .int j :: .ref a :: st) := by
  intro T vm0 k0 locs ok X hS hk hN hI hL hF
  have hm := up.mem
  obtain ⟨c, A, e1, e2, e3, e4⟩ := hI.av hm
  subst hi; subst hu; subst hv
  have i1 : ¬ (j < 0 ∨ c.slots.size ≤ j.toNatClampNeg) := fun q => q.elim hj fun r => by rw [size_of e1] at r; exact absurd hl (Nat.not_lt.mpr r)
  obtain ⟨T', h', X', e', W', st'⟩ := stC X ok.1 (ok_Z ok hS) rfl A i1 (g := mkF K.m pc Ls.toArray (.int z :: .int j :: .ref a :: st)) rfl rfl (hb ok.2.1 hd)
  obtain ⟨U, u', h1, h2⟩ := nx T' vm0 k0 _ ok X' hS (by rw [e', W'.size]; exact hk) hN (by rw [e']; exact hI.wrA A up (fits_nar_char _) W') hL (Fr.snoc X' hF ((hI.2.2 _ hm).1 rfl))
  exact ⟨U, u', st' _ h1, h2⟩
theorem W.bastore {j z : Int32} {i : Nat} {u : Value} (hd : decode code pc = .ok (.bastore, 1)) (hj : ¬ j < 0) (hi : j.toNatClampNeg = i) (hl : i < vs.length) (hu : (.int (nar .byte z)) = u) (hv : vs.set i u = vs') (up : Upd As a (arr .byte vs) (arr .byte vs') As')
    (nx : W G K y code ret R Q As' Li cells slots (pc + 1) Ls st) : W G K y code ret R Q As Li cells slots pc Ls (.int z :: .int j :: .ref a :: st) := by
  intro T vm0 k0 locs ok X hS hk hN hI hL hF
  have hm := up.mem
  obtain ⟨c, A, e1, e2, e3, e4⟩ := hI.av hm
  subst hi; subst hu; subst hv
  have i1 : ¬ (j < 0 ∨ c.slots.size ≤ j.toNatClampNeg) := fun q => q.elim hj fun r => by rw [size_of e1] at r; exact absurd hl (Nat.not_lt.mpr r)
  obtain ⟨T', h', X', e', W', st'⟩ := stB X ok.1 (ok_Z ok hS) rfl A i1 (g := mkF K.m pc Ls.toArray (.int z :: .int j :: .ref a :: st)) rfl rfl (hb ok.2.1 hd)
  obtain ⟨U, u', h1, h2⟩ := nx T' vm0 k0 _ ok X' hS (by rw [e', W'.size]; exact hk) hN (by rw [e']; exact hI.wrA A up (fits_nar_byte _) W') hL (Fr.snoc X' hF ((hI.2.2 _ hm).1 rfl))
  exact ⟨U, u', st' _ h1, h2⟩
theorem W.sastore {j z : Int32} {i : Nat} {u : Value} (hd : decode code pc = .ok (.sastore, 1)) (hj : ¬ j < 0) (hi : j.toNatClampNeg = i) (hl : i < vs.length) (hu : (.int (nar .short z)) = u) (hv : vs.set i u = vs') (up : Upd As a (arr .short vs) (arr .short vs') As')
    (nx : W G K y code ret R Q As' Li cells slots (pc + 1) Ls st) : W G K y code ret R Q As Li cells slots pc Ls (.int z :: .int j :: .ref a :: st) := by
  intro T vm0 k0 locs ok X hS hk hN hI hL hF
  have hm := up.mem
  obtain ⟨c, A, e1, e2, e3, e4⟩ := hI.av hm
  subst hi; subst hu; subst hv
  have i1 : ¬ (j < 0 ∨ c.slots.size ≤ j.toNatClampNeg) := fun q => q.elim hj fun r => by rw [size_of e1] at r; exact absurd hl (Nat.not_lt.mpr r)
  obtain ⟨T', h', X', e', W', st'⟩ := stS X ok.1 (ok_Z ok hS) rfl A i1 (g := mkF K.m pc Ls.toArray (.int z :: .int j :: .ref a :: st)) rfl rfl (hb ok.2.1 hd)
  obtain ⟨U, u', h1, h2⟩ := nx T' vm0 k0 _ ok X' hS (by rw [e', W'.size]; exact hk) hN (by rw [e']; exact hI.wrA A up (fits_nar_short _) W') hL (Fr.snoc X' hF ((hI.2.2 _ hm).1 rfl))
  exact ⟨U, u', st' _ h1, h2⟩
/-! ### casts -/
/-- what the walk knows of an object's class: its own, or one that stood at the start -/
def Is (G : Gx) (As : List Ent) (a : Addr) (C : String) : Prop := (∃ w fs vs, (a, w, obj C fs vs) ∈ As) ∨ Exa G.Z G.Z.heap a C
theorem Is.mem (hm : (a, w, obj C fs vs) ∈ As) : Is G As a C := Or.inl ⟨w, fs, vs, hm⟩
theorem Is.old (E : Exa G.Z G.Z.heap a C) : Is G As a C := Or.inr E
theorem Is.exa {h : Heap} (q : Is G As a C) (I : Inv G As h) : Exa G.Z h a C := by
  rcases q with ⟨w, fs, vs, hm⟩ | E
  · exact I.exa hm
  · exact E.ext I.old
/-- a reference array takes a reference (aastore's own test): null, or an object of a class that may lie there -/
theorem W.aastore {j : Int32} {i : Nat} (hd : decode code pc = .ok (.aastore, 1)) (hj : ¬ j < 0) (hi : j.toNatClampNeg = i) (hl : i < vs.length) (hr : x = .null ∨ ∃ o D, x = .ref o ∧ Is G As o D ∧ (D = C ∨ (Cond.castable D C).before G.a0 G.Z = true)) (hv : vs.set i x = vs') (up : Upd As a (arr (.object C) vs) (arr (.object C) vs') As')
    (nx : W G K y code ret R Q As' Li cells slots (pc + 1) Ls st) : W G K y code ret R Q As Li cells slots pc Ls (x :: .int j :: .ref a :: st) := by
  intro T vm0 k0 locs ok X hS hk hN hI hL hF
  have hm := up.mem
  obtain ⟨c, A, e1, e2, e3, e4⟩ := hI.av hm
  subst hi; subst hv
  have i1 : ¬ (j < 0 ∨ c.slots.size ≤ j.toNatClampNeg) := fun q => q.elim hj fun r => by rw [size_of e1] at r; exact absurd hl (Nat.not_lt.mpr r)
  have S : Sto G.Z T.heap a x := by
    rcases hr with rfl | ⟨o, D, rfl, q, rfl | q'⟩
    · exact Or.inl rfl
    · exact Sto.of A (e4 rfl _ rfl) (Ins.self (q.exa hI))
    · exact Sto.of A (e4 rfl _ rfl) (Ins.of_exa (q.exa hI) q')
  have hfx : fits (.object C) x = true := by rcases hr with rfl | ⟨o, D, rfl, -⟩ <;> rfl
  obtain ⟨T', h', X', e', W', st'⟩ := stR X ok.1 (ok_Z ok hS) rfl A i1 rfl S (g := mkF K.m pc Ls.toArray (x :: .int j :: .ref a :: st)) rfl rfl (hb ok.2.1 hd)
  obtain ⟨U, u', h1, h2⟩ := nx T' vm0 k0 _ ok X' hS (by rw [e', W'.size]; exact hk) hN (by rw [e']; exact hI.wrA A up hfx W') hL (Fr.snoc X' hF ((hI.2.2 _ hm).1 rfl))
  exact ⟨U, u', st' _ h1, h2⟩
theorem W.castN {g : Nat} (hd : decode code pc = .ok (.checkcast idx, 3)) (nx : W G K y code ret R Q As Li cells slots (pc + 3) Ls (.null :: st)) : W G K y code ret R Q As Li cells slots pc Ls (.null :: st) := by
  intro T vm0 k0 locs ok X hS hk hN hI hL hF
  obtain ⟨U, u, h1, h2⟩ := nx T vm0 k0 locs ok X hS hk hN hI hL hF
  exact ⟨U, u, X.checkcastNull ok.1 (g := mkF K.m pc Ls.toArray (.null :: st)) rfl rfl (hb ok.2.1 hd) _ h1, h2⟩
theorem W.instNull (hd : decode code pc = .ok (.instanceof idx, 3)) (nx : W G K y code ret R Q As Li cells slots (pc + 3) Ls (.int 0 :: st)) : W G K y code ret R Q As Li cells slots pc Ls (.null :: st) := by
  intro T vm0 k0 locs ok X hS hk hN hI hL hF
  obtain ⟨U, u, h1, h2⟩ := nx T vm0 k0 locs ok X hS hk hN hI hL hF
  exact ⟨U, u, X.instanceofNull ok.1 (g := mkF K.m pc Ls.toArray (.null :: st)) rfl rfl (hb ok.2.1 hd) _ h1, h2⟩
theorem W.cast {D : String} (wl : (Cond.classLink y.cls idx D).before G.a0 G.Z = true) (hd : decode code pc = .ok (.checkcast idx, 3)) (hm : Is G As a C) (hc : C = D ∨ (Cond.castable C D).before G.a0 G.Z = true)
    (nx : W G K y code ret R Q As Li cells slots (pc + 3) Ls (.ref a :: st)) : W G K y code ret R Q As Li cells slots pc Ls (.ref a :: st) := by
  intro T vm0 k0 locs ok X hS hk hN hI hL hF
  have E := hm.exa hI
  have F : Ins G.Z T.heap a D true := hc.elim (fun e => by subst e; exact Ins.self E) (fun q => Ins.of_exa E q)
  obtain ⟨T', X', e', st'⟩ := castY X ok.1 (ok_Z ok hS) (ok_own ok hS) wl rfl F (g := mkF K.m pc Ls.toArray (.ref a :: st)) rfl rfl (hb ok.2.1 hd)
  obtain ⟨U, u, h1, h2⟩ := nx T' vm0 k0 locs ok X' hS (by rw [e']; exact hk) hN (by rw [e']; exact hI) hL hF
  exact ⟨U, u, st' _ h1, h2⟩
theorem W.inst {D : String} (wl : (Cond.classLink y.cls idx D).before G.a0 G.Z = true) (hd : decode code pc = .ok (.instanceof idx, 3)) (hm : Is G As a C) (hc : C = D ∨ (Cond.castable C D).before G.a0 G.Z = true)
    (nx : W G K y code ret R Q As Li cells slots (pc + 3) Ls (.int 1 :: st)) : W G K y code ret R Q As Li cells slots pc Ls (.ref a :: st) := by
  intro T vm0 k0 locs ok X hS hk hN hI hL hF
  have E := hm.exa hI
  have F : Ins G.Z T.heap a D true := hc.elim (fun e => by subst e; exact Ins.self E) (fun q => Ins.of_exa E q)
  obtain ⟨T', X', e', st'⟩ := instY X ok.1 (ok_Z ok hS) (ok_own ok hS) wl rfl F (g := mkF K.m pc Ls.toArray (.ref a :: st)) rfl rfl (hb ok.2.1 hd)
  obtain ⟨U, u, h1, h2⟩ := nx T' vm0 k0 locs ok X' hS (by rw [e']; exact hk) hN (by rw [e']; exact hI) hL hF
  exact ⟨U, u, st' _ h1, h2⟩
theorem W.instNo {D : String} (wl : (Cond.classLink y.cls idx D).before G.a0 G.Z = true) (hd : decode code pc = .ok (.instanceof idx, 3)) (hm : Is G As a C) (hc : ∃ c t, G.Z.vm.findClass C = some c ∧ G.Z.vm.findClass D = some t ∧ G.Z.vm.assignable c t = false)
    (nx : W G K y code ret R Q As Li cells slots (pc + 3) Ls (.int 0 :: st)) : W G K y code ret R Q As Li cells slots pc Ls (.ref a :: st) := by
  intro T vm0 k0 locs ok X hS hk hN hI hL hF
  obtain ⟨T', X', e', st'⟩ := Jvm.RoadKit.instNo X ok.1 (ok_Z ok hS) (ok_own ok hS) wl rfl (hm.exa hI) hc (g := mkF K.m pc Ls.toArray (.ref a :: st)) rfl rfl (hb ok.2.1 hd)
  obtain ⟨U, u, h1, h2⟩ := nx T' vm0 k0 locs ok X' hS (by rw [e']; exact hk) hN (by rw [e']; exact hI) hL hF
  exact ⟨U, u, st' _ h1, h2⟩
theorem W.ldcI {z : Int32} (wl : (Cond.constant y.cls idx z).before G.a0 G.Z = true) (hd : decode code pc = .ok (.ldc idx, 2)) (nx : W G K y code ret R Q As Li cells slots (pc + 2) Ls (.int z :: st)) : W G K y code ret R Q As Li cells slots pc Ls st := by
  intro T vm0 k0 locs ok X hS hk hN hI hL hF
  obtain ⟨U, u, h1, h2⟩ := nx T vm0 k0 locs ok X hS hk hN hI hL hF
  exact ⟨U, u, X.ldcInt ok.1 (ok_own ok hS) (mvT (ok_Z ok hS) wl) (g := mkF K.m pc Ls.toArray st) rfl (hb ok.2.1 hd) _ h1, h2⟩
theorem W.ldcJ {z : Int64} (wl : (Cond.constantLong y.cls idx z).before G.a0 G.Z = true) (hd : decode code pc = .ok (.ldc2_w idx, 3)) (nx : W G K y code ret R Q As Li cells slots (pc + 3) Ls (.long z :: st)) : W G K y code ret R Q As Li cells slots pc Ls st := by
  intro T vm0 k0 locs ok X hS hk hN hI hL hF
  obtain ⟨U, u, h1, h2⟩ := nx T vm0 k0 locs ok X hS hk hN hI hL hF
  exact ⟨U, u, X.ldc2Long ok.1 (ok_own ok hS) (mvT (ok_Z ok hS) wl) (g := mkF K.m pc Ls.toArray st) rfl (hb ok.2.1 hd) _ h1, h2⟩
/-! ### returns -/
theorem W.ret0 {T : State} {vm0 : Vm} {k0 : Nat} {locs : List Loc} (u : Option Value) (X : Stand K.p G.l K.e R (K.s.setVm vm0) K.m K.args K.below K.meth K.c T locs cells slots) (hS : K.s.Since vm0 k0) (hk : k0 ≤ T.heap.size) (hN : G.nw = true → K.s.WarmedH vm0) (hI : Inv G As T.heap) (hL : LI G.Z vm0 Li) (hF : Fr G.Z.heap.size locs)
    (hlk : K.meth.locks = false) (hv : K.meth.sig.returnType = none → u = none) (hq : Q u As Li) (hc : cells ≤ R.cells) (hs : slots ≤ R.slots) {t : State}
    (stp : ∀ fs, (∀ (f : JFrame) (acts : List Action), f.method = K.m → f.locked = none → f.entered = [] → (doReturn K.e (T.setTop f) acts u).1 = T.setFrames fs) → Steps K.p.tables K.e K.below t (T.setFrames fs)) : Fini G K R Q t := by
  obtain ⟨fs, hr, hrun, hended, e1, e2, e3, e4⟩ := X.leaveW hS hk (v := u) hv hlk
  exact ⟨T.setFrames fs, u, stp fs hr, hrun, hended, locs, As, Li, hq, hI, hL.warm X.warmed, hF, ⟨e1, e2, e3, e4.mono hc hs⟩, fun nw => State.WarmedH.trans (t := K.s.setVm vm0) (hN nw) X.warmed⟩
theorem W.vret (hd : decode code pc = .ok (.return_, 1)) (hr : ret = none) (hq : Q none As Li) (hc : cells ≤ R.cells) (hs : slots ≤ R.slots) : W G K y code ret R Q As Li cells slots pc Ls [] := by
  intro T vm0 k0 locs ok X hS hk hN hI hL hF
  obtain ⟨ox, ob, -, -, -, -, ort, olk⟩ := ok
  exact W.ret0 none X hS hk hN hI hL hF olk (fun _ => rfl) hq hc hs fun fs h => X.returnOut ox (ort.trans hr) (hb ob hd) h
theorem W.iret {z : Int32} {tt : FieldType} (hd : decode code pc = .ok (.ireturn, 1)) (hr : ret = some tt) (ht : tt = .int ∨ tt = .boolean ∨ tt = .byte ∨ tt = .char ∨ tt = .short) (hn : narrow tt (.int z) = .int z) (hq : Q (some (.int z)) As Li) (hc : cells ≤ R.cells) (hs : slots ≤ R.slots) : W G K y code ret R Q As Li cells slots pc Ls (.int z :: st) := by
  intro T vm0 k0 locs ok X hS hk hN hI hL hF
  obtain ⟨ox, ob, -, -, -, -, ort, olk⟩ := ok
  exact W.ret0 (some (.int z)) X hS hk hN hI hL hF olk (fun q => by rw [ort, hr] at q; cases q) hq hc hs fun fs h => retOut X ox (ort.trans hr) hn (Or.inl ⟨rfl, ht, z, rfl⟩) (hb ob hd) h
theorem W.lret {z : Int64} (hd : decode code pc = .ok (.lreturn, 1)) (hr : ret = some .long) (hq : Q (some (.long z)) As Li) (hc : cells ≤ R.cells) (hs : slots ≤ R.slots) : W G K y code ret R Q As Li cells slots pc Ls (.long z :: st) := by
  intro T vm0 k0 locs ok X hS hk hN hI hL hF
  obtain ⟨ox, ob, -, -, -, -, ort, olk⟩ := ok
  exact W.ret0 (some (.long z)) X hS hk hN hI hL hF olk (fun q => by rw [ort, hr] at q; cases q) hq hc hs fun fs h => retOut X ox (ort.trans hr) rfl (Or.inr (Or.inl ⟨rfl, rfl, z, rfl⟩)) (hb ob hd) h
theorem W.aret {tt : FieldType} (hd : decode code pc = .ok (.areturn, 1)) (hr : ret = some tt) (ht : tt.isReference = true) (hx : x.isRef = true) (hq : Q (some x) As Li) (hc : cells ≤ R.cells) (hs : slots ≤ R.slots) : W G K y code ret R Q As Li cells slots pc Ls (x :: st) := by
  intro T vm0 k0 locs ok X hS hk hN hI hL hF
  obtain ⟨ox, ob, -, -, -, -, ort, olk⟩ := ok
  have hn : narrow tt x = x := by rcases ref_cases hx with rfl | ⟨_, rfl⟩ <;> cases tt <;> rfl
  exact W.ret0 (some x) X hS hk hN hI hL hF olk (fun q => by rw [ort, hr] at q; cases q) hq hc hs fun fs h => retOut X ox (ort.trans hr) hn (Or.inr (Or.inr (Or.inr (Or.inr ⟨rfl, ht, hx⟩)))) (hb ob hd) h
end Laws
end Jvm.Own
namespace Jvm.Own
open Sem ClassFile Op Lib Jvm.Stand Jvm.Free Jvm.LawKit Jvm.RoadKit
/-! ### contracts and calls -/
/-- the contract of y: called with these arguments over this symbolic heap it returns, as Q says -/
def Ct (G : Gx) (ws : List Jvm.Cond) (y : MethodName) (code : ByteArray) (mL : Nat) (ret : Option FieldType) (R : Room) (args : List Value) (As : List Ent) (Li : List LitE) (Q : Qx) : Prop :=
  MetFree G.l y (head1 (Cond.code y code mL ret :: ws) R) (fun a U => a = args.toArray ∧ G.Z.Warmed39 U.vm ∧ Inv G As U.heap ∧ LI G.Z U.vm Li) (fun _ _ _ _ _ => True)
    (fun _ U o U' => ∃ (v : Option Value) (L : List Loc) (As' : List Ent) (Li' : List LitE), o = .returned v ∧ Q v As' Li' ∧ Inv G As' U'.heap ∧ LI G.Z U'.vm Li' ∧ Fr G.Z.heap.size L ∧ ReturnedEndW U o U' L R.cells R.slots ∧ (G.nw = true → U.WarmedH U'.vm))
section Calls
variable {G : Gx} {K : Kx} {y : MethodName} {code : ByteArray} {ret : Option FieldType} {R : Room} {Q : Qx} {As As' : List Ent} {Li Li' : List LitE} {cells slots pc pc' : Nat} {Ls Ls' : List Slot} {st st' : List Value}
theorem Ct.intro {ws : List Jvm.Cond} {mL : Nat} {args : List Value} (hp : plainFor y = true) (he : argsToLocals args.toArray mL = Ls.toArray) (hl : Ls.length = mL) (w : ∀ K, W G K y code ret R Q As Li 0 0 0 Ls []) :
    Ct G ws y code mL ret R args As Li Q := by
  refine MetFree.of_bodySF hp hisR ?_
  intro p e s m args' below meth c s₁ Bd hml0 hP hK
  obtain ⟨rfl, hZ, hI, hL⟩ := hP
  have X0 : Stand p G.l e R s m args.toArray below meth c s₁ [] 0 0 := Stand.of_body Bd
  have e0 : s₁.heap = s.heap := by rw [Bd.state]; rfl
  have ok : Ok G (p, e, s, m, args.toArray, below, meth, c) y code Ls.length ret := ⟨Bd.exec, Bd.bytes, hml0.trans hl.symm, hZ, findClass_of_methodNamed Bd.named, (name_of_methodNamed Bd.named Bd.method).1, Bd.returns, Bd.notSynchronized⟩
  obtain ⟨U, v, h1, h2, h3, L, A, I, h4, h5, h6, h7, h8, h9⟩ := w (p, e, s, m, args.toArray, below, meth, c) s₁ s.vm s.heap.size [] ok X0 ((State.WarmedH.refl s).since _) (by rw [e0]; exact Nat.le_refl _) (fun _ => State.WarmedH.refl s) (by rw [e0]; exact hI) hL (Fr.nil _)
  refine ⟨U, .returned v, ?_, h2, h3, v, L, A, I, rfl, h4, h5, h6, h7, h8, h9⟩
  have hE : entryFrame m args.toArray mL = mkF m 0 Ls.toArray [] := by
    show ({ method := m, pc := 0, locals := argsToLocals args.toArray mL, stack := [], locked := none } : JFrame) = _
    rw [he]
  rw [hE]
  exact h1
theorem Ct.weaken {ws : List Jvm.Cond} {mL : Nat} {args : List Value} {Q' : Qx} (h : Ct G ws y code mL ret R args As Li Q) (q : ∀ v A L, Q v A L → Q' v A L) : Ct G ws y code mL ret R args As Li Q' :=
  MetFree.mono h (fun _ _ h => h) (fun _ _ _ _ _ h => h) fun _ _ _ _ _ ⟨v, L, A, I, h1, h2, h3⟩ => ⟨v, L, A, I, h1, q _ _ _ h2, h3⟩
variable {z : MethodName} {code' : ByteArray} {ret' : Option FieldType} {R' : Room} {mL' : Nat} {Q' : Qx} {argsL rest : List Value} {idx : Nat} {sg : MethodDescriptor}
/-- what a call by its contract asks ahead and gives behind -/
abbrev PreC (G : Gx) (As : List Ent) (Li : List LitE) (R R' : Room) (as' : Array Value) : Pt → Array Value → Prop :=
  fun A a => a = as' ∧ Inv G As A.U.heap ∧ LI G.Z A.U.vm Li ∧ A.cells + R'.cells ≤ R.cells ∧ A.slots + R'.slots ≤ R.slots
abbrev PostC (G : Gx) (R' : Room) (Q' : Qx) : Pt → Array Value → Option Value → Pt → Prop :=
  fun A _ v B => ∃ (L : List Loc) (As' : List Ent) (Li' : List LitE), Q' v As' Li' ∧ Inv G As' B.U.heap ∧ LI G.Z B.U.vm Li' ∧ Fr G.Z.heap.size L ∧ (G.nw = true → A.U.WarmedH B.U.vm) ∧ B.locs = A.locs ++ L ∧ B.cells = A.cells + R'.cells ∧ B.slots = A.slots + R'.slots
theorem backC {p : Program} {e : Env} {below : List Frame} {s : State} {sargs : Array Value} {len Wt : Nat} (hC : Ct G [] z code' mL' ret' R' argsL As Li Q') (hZ : G.Z.Warmed39 s.vm) (wc : (Cond.code z code' mL' ret').before G.a0 G.Z = true) (wz : (Cond.initialized z.cls).before G.a0 G.Z = true)
    (hf : R'.frames + 1 ≤ R.frames) (hl : Wt + (mL' + 11) + R'.locals ≤ R.locals) : BackS G.l R p e below s sargs z len Wt (PreC G As Li R R' argsL.toArray) (PostC G R' Q') :=
  BackS.of_freeW (bytes := code') (maxL := mL') (ret := ret')
    (E := fun _ first o t L k n => k = R'.cells ∧ n = R'.slots ∧ ∃ v, o = .returned v ∧ ∃ As' Li', Q' v As' Li' ∧ Inv G As' t.heap ∧ LI G.Z t.vm Li' ∧ Fr G.Z.heap.size L ∧ (G.nw = true → first.WarmedH t.vm)) hC hf hl
    (fun m meth c A a Y hp => have hU : G.Z.Warmed39 A.U.vm := wtrans hZ Y.warmed
      ⟨by show (Cond.and _ .tt).before a A.U = true; rw [Cond.before_and, mv hU wc]; rfl, mv hU wc, mv hU wz, hp.2.2.2.1, hp.2.2.2.2⟩)
    (fun m meth c A a g mk Y hp => ⟨hp.1, wtrans hZ Y.warmed, hp.2.1, hp.2.2.1⟩) (fun _ _ _ _ _ _ _ _ _ => trivial)
    (fun _ _ _ _ ⟨v, L, A, I, h1, h2, h3, h4, h5, h6, h7⟩ => ⟨L, _, _, h6, rfl, rfl, v, h1, A, I, h2, h3, h4, h5, h7⟩)
    (fun m meth c A a g mk v t L k n Y hp _ _ ⟨e1, e2, v', e3, A', I', q1, q2, q3, q4, q5⟩ => by cases e3; subst e1 e2; exact ⟨L, A', I', q1, q2, q3, q4, q5, rfl, rfl, rfl⟩)
theorem W.after {T : State} {vm0 : Vm} {k0 : Nat} {locs : List Loc} {len : Nat} {as' : Array Value} (ok : Ok G K y code Ls.length ret) (hS : K.s.Since vm0 k0) (hk : k0 ≤ T.heap.size) (hN : G.nw = true → K.s.WarmedH vm0) (hF : Fr G.Z.heap.size locs)
    {v : Option Value} {vm₁ : Vm} {B : Pt} (hW1 : (K.s.setVm vm0).WarmedH vm₁) (X' : Stand K.p G.l K.e R ((K.s.setVm vm0).setVm B.U.vm) K.m K.args K.below K.meth K.c B.U B.locs B.cells B.slots) (hS' : (K.s.setVm vm0).Since B.U.vm B.U.heap.size) (hg : T.heap.size ≤ B.U.heap.size)
    (hP : PostC G R' Q' ⟨T.setVm vm₁, locs, cells, slots⟩ as' v B) (stp : Steps K.p.tables K.e K.below (T.setTop (mkF K.m pc Ls.toArray st)) (B.U.setTop (mkF K.m (pc + len) Ls.toArray (v.toList ++ rest))))
    (nx : ∀ v As' Li', Q' v As' Li' → W G K y code ret R Q As' Li' (cells + R'.cells) (slots + R'.slots) (pc + len) Ls (v.toList ++ rest)) : Fini G K R Q (T.setTop (mkF K.m pc Ls.toArray st)) := by
  obtain ⟨U, L, c, n⟩ := B
  obtain ⟨L', A', I', q1, q2, q3, q4, q5, e1, e2, e3⟩ := hP
  dsimp only [Pt.U, Pt.locs, Pt.cells, Pt.slots] at *
  subst e1 e2 e3
  obtain ⟨V, u, h1, h2⟩ := nx v A' I' q1 U U.vm U.heap.size _ ok X' (hS.trans hS' (Nat.le_trans hk hg)) (Nat.le_refl _) (fun nw => State.WarmedH.trans (t := T.setVm vm₁) (State.WarmedH.trans (t := K.s.setVm vm0) (hN nw) hW1) (q5 nw)) q2 q3 (Fr.app hF q4)
  exact ⟨V, u, stp.trans h1, h2⟩
/-- the weight of what lies under a call's arguments -/
abbrev wt (rest : List Value) : Nat := (rest.map fun v => v.category).sum
theorem wt_le (rest : List Value) : 2 * (0 : Nat) + (rest.map fun v => v.category).sum ≤ wt rest := by simp [wt]
theorem W.callS (hC : Ct G [] z code' mL' ret' R' argsL As Li Q') (hd : decode code pc = .ok (.invokestatic idx, 3)) (wl : (Cond.methodLink y.cls idx z).before G.a0 G.Z = true) (ws : (Cond.static z).before G.a0 G.Z = true) (wz : (Cond.initialized z.cls).before G.a0 G.Z = true) (wc : (Cond.code z code' mL' ret').before G.a0 G.Z = true)
    (hy : z.cls ≠ "java/lang/invoke/MethodHandle" ∧ z.cls ≠ "java/lang/invoke/VarHandle") (hp : parseMethodDescriptor z.desc = some sg) (hn : argsL.length = sg.parameters.length) (hst : st = argsL.reverse ++ rest)
    (hf : R'.frames + 1 ≤ R.frames) (hl : wt rest + (mL' + 11) + R'.locals ≤ R.locals) (hc : cells + R'.cells ≤ R.cells) (hs : slots + R'.slots ≤ R.slots)
    (nx : ∀ v As' Li', Q' v As' Li' → W G K y code ret R Q As' Li' (cells + R'.cells) (slots + R'.slots) (pc + 3) Ls (v.toList ++ rest)) : W G K y code ret R Q As Li cells slots pc Ls st := by
  intro T vm0 k0 locs ok X hS hk hN hI hL hF
  have hZ := ok_Z ok hS
  obtain ⟨v, vm₁, B, hW1, X', hS', hg, hP, stp⟩ := callSS X ok.1 (ok_own ok hS) (mvT hZ wl) (mvT hZ ws) (mvT hZ wz) (mvT hZ wc) hy (backC hC hZ wc wz hf hl) (g := mkF K.m pc Ls.toArray st) rfl (by rw [ok.2.2.1]; simp) (argsL := argsL) (rest := rest) (fun sig h => by cases hp.symm.trans h; exact hn) hst (wt_le rest) (hb ok.2.1 hd) (fun vm₁ hw => ⟨rfl, hI, hL.warm hw, hc, hs⟩)
  exact W.after ok hS hk hN hF hW1 X' hS' hg hP stp nx
theorem mvMN {Z s : State} {a0 args : Array Value} {own host : String} {idx : Nat} {x : MethodName} (hZ : Z.Warmed39 s.vm) (w : (Cond.methodLinkNest own idx x host).before a0 Z = true) : (Cond.methodLinkNest own idx x host).before args s = true := (Cond.methodLinkNest_wide hZ w :)
theorem W.callSN {host : String} (hC : Ct G [] z code' mL' ret' R' argsL As Li Q') (hd : decode code pc = .ok (.invokestatic idx, 3)) (wl : (Cond.methodLinkNest y.cls idx z host).before G.a0 G.Z = true) (ws : (Cond.static z).before G.a0 G.Z = true) (wz : (Cond.initialized z.cls).before G.a0 G.Z = true) (wc : (Cond.code z code' mL' ret').before G.a0 G.Z = true)
    (hy : z.cls ≠ "java/lang/invoke/MethodHandle" ∧ z.cls ≠ "java/lang/invoke/VarHandle") (hp : parseMethodDescriptor z.desc = some sg) (hn : argsL.length = sg.parameters.length) (hst : st = argsL.reverse ++ rest)
    (hf : R'.frames + 1 ≤ R.frames) (hl : wt rest + (mL' + 11) + R'.locals ≤ R.locals) (hc : cells + R'.cells ≤ R.cells) (hs : slots + R'.slots ≤ R.slots)
    (nx : ∀ v As' Li', Q' v As' Li' → W G K y code ret R Q As' Li' (cells + R'.cells) (slots + R'.slots) (pc + 3) Ls (v.toList ++ rest)) : W G K y code ret R Q As Li cells slots pc Ls st := by
  intro T vm0 k0 locs ok X hS hk hN hI hL hF
  have hZ := ok_Z ok hS
  obtain ⟨v, vm₁, B, hW1, X', hS', hg, hP, stp⟩ := callSNS X ok.1 (ok_own ok hS) (mvMN hZ wl) (mvT hZ ws) (mvT hZ wz) (mvT hZ wc) hy (backC hC hZ wc wz hf hl) (g := mkF K.m pc Ls.toArray st) rfl (by rw [ok.2.2.1]; simp) (argsL := argsL) (rest := rest) (fun sig h => by cases hp.symm.trans h; exact hn) hst (wt_le rest) (hb ok.2.1 hd) (fun vm₁ hw => ⟨rfl, hI, hL.warm hw, hc, hs⟩)
  exact W.after ok hS hk hN hF hW1 X' hS' hg hP stp nx
variable {a : Addr} {C : String}
/-- a constructor -/
theorem W.callI (hC : Ct G [] z code' mL' none R' (.ref a :: argsL) As Li Q') (hd : decode code pc = .ok (.invokespecial idx, 3)) (h1 : z.name = "<init>") (wl : (Cond.methodLink y.cls idx z).before G.a0 G.Z = true) (wi : (Cond.instanceMethod z).before G.a0 G.Z = true) (wz : (Cond.initialized z.cls).before G.a0 G.Z = true) (wc : (Cond.code z code' mL' none).before G.a0 G.Z = true)
    (hy : z.cls ≠ "java/lang/invoke/MethodHandle" ∧ z.cls ≠ "java/lang/invoke/VarHandle") (hp : parseMethodDescriptor z.desc = some sg) (hn : argsL.length = sg.parameters.length) (hst : st = argsL.reverse ++ .ref a :: rest)
    (hf : R'.frames + 1 ≤ R.frames) (hl : wt rest + (mL' + 11) + R'.locals ≤ R.locals) (hc : cells + R'.cells ≤ R.cells) (hs : slots + R'.slots ≤ R.slots)
    (nx : ∀ v As' Li', Q' v As' Li' → W G K y code ret R Q As' Li' (cells + R'.cells) (slots + R'.slots) (pc + 3) Ls (v.toList ++ rest)) : W G K y code ret R Q As Li cells slots pc Ls st := by
  intro T vm0 k0 locs ok X hS hk hN hI hL hF
  have hZ := ok_Z ok hS
  obtain ⟨v, vm₁, B, hW1, X', hS', hg, hP, stp⟩ := X.specialBackS ok.1 h1 (ok_own ok hS) (mvT hZ wl) (mvT hZ wi) (mvT hZ wc) hy (backC hC hZ wc wz hf hl) (g := mkF K.m pc Ls.toArray st) rfl (by rw [ok.2.2.1]; simp) (Steps.refl _) (a := a) (argsL := argsL) (rest := rest) (fun sig h => by cases hp.symm.trans h; exact hn) hst (wt_le rest) (hb ok.2.1 hd) (fun vm₁ hw => ⟨rfl, hI, hL.warm hw, hc, hs⟩)
  exact W.after ok hS hk hN hF hW1 X' hS' hg hP stp nx
theorem W.callIN {host : String} (hC : Ct G [] z code' mL' none R' (.ref a :: argsL) As Li Q') (hd : decode code pc = .ok (.invokespecial idx, 3)) (h1 : z.name = "<init>") (wl : (Cond.methodLinkNest y.cls idx z host).before G.a0 G.Z = true) (wi : (Cond.instanceMethod z).before G.a0 G.Z = true) (wz : (Cond.initialized z.cls).before G.a0 G.Z = true) (wc : (Cond.code z code' mL' none).before G.a0 G.Z = true)
    (hy : z.cls ≠ "java/lang/invoke/MethodHandle" ∧ z.cls ≠ "java/lang/invoke/VarHandle") (hp : parseMethodDescriptor z.desc = some sg) (hn : argsL.length = sg.parameters.length) (hst : st = argsL.reverse ++ .ref a :: rest)
    (hf : R'.frames + 1 ≤ R.frames) (hl : wt rest + (mL' + 11) + R'.locals ≤ R.locals) (hc : cells + R'.cells ≤ R.cells) (hs : slots + R'.slots ≤ R.slots)
    (nx : ∀ v As' Li', Q' v As' Li' → W G K y code ret R Q As' Li' (cells + R'.cells) (slots + R'.slots) (pc + 3) Ls (v.toList ++ rest)) : W G K y code ret R Q As Li cells slots pc Ls st := by
  intro T vm0 k0 locs ok X hS hk hN hI hL hF
  have hZ := ok_Z ok hS
  obtain ⟨v, vm₁, B, hW1, X', hS', hg, hP, stp⟩ := X.specialBackNestS ok.1 h1 (ok_own ok hS) (mvMN hZ wl) (mvT hZ wi) (mvT hZ wc) hy (backC hC hZ wc wz hf hl) (g := mkF K.m pc Ls.toArray st) rfl (by rw [ok.2.2.1]; simp) (Steps.refl _) (a := a) (argsL := argsL) (rest := rest) (fun sig h => by cases hp.symm.trans h; exact hn) hst (wt_le rest) (hb ok.2.1 hd) (fun vm₁ hw => ⟨rfl, hI, hL.warm hw, hc, hs⟩)
  exact W.after ok hS hk hN hF hW1 X' hS' hg hP stp nx
/-- java.lang.Object's -/
theorem W.callO (hd : decode code pc = .ok (.invokespecial idx, 3)) (wl : (Cond.methodLink y.cls idx Lib.objectInit).before G.a0 G.Z = true) (wi : (Cond.instanceMethod Lib.objectInit).before G.a0 G.Z = true) (wc : (Cond.code Lib.objectInit ⟨#[0xb1]⟩ 1 none).before G.a0 G.Z = true)
    (hf : 1 ≤ R.frames) (hl : wt st + 12 ≤ R.locals) (nx : W G K y code ret R Q As Li cells slots (pc + 3) Ls st) : W G K y code ret R Q As Li cells slots pc Ls (.ref a :: st) := by
  intro T vm0 k0 locs ok X hS hk hN hI hL hF
  obtain ⟨T', X', e', st'⟩ := initO X ok.1 (ok_Z ok hS) (ok_own ok hS) wl wi wc rfl (g := mkF K.m pc Ls.toArray (.ref a :: st)) rfl (by rw [ok.2.2.1]; simp) rfl (hb ok.2.1 hd) hf (wt_le st) hl
  obtain ⟨U, u, h1, h2⟩ := nx T' vm0 k0 locs ok X' hS (by rw [e']; exact hk) hN (by rw [e']; exact hI) hL hF
  exact ⟨U, u, st' _ h1, h2⟩
/-- an instance method that the receiver's class selects; the entry's class x declares it -/
theorem W.callV {x : MethodName} (hC : Ct G [] z code' mL' ret' R' (.ref a :: argsL) As Li Q') (hd : decode code pc = .ok (.invokevirtual idx, 3)) (hm : Is G As a C) (wl : (Cond.methodLink y.cls idx x).before G.a0 G.Z = true) (wd : (Cond.declares x).before G.a0 G.Z = true) (nf : ∀ s : State, G.Z.Warmed39 s.vm → NotFace s x) (wsel : (Cond.selects C x z).before G.a0 G.Z = true)
    (wi : (Cond.instanceMethod z).before G.a0 G.Z = true) (wz : (Cond.initialized z.cls).before G.a0 G.Z = true) (wc : (Cond.code z code' mL' ret').before G.a0 G.Z = true)
    (hy : x.cls ≠ "java/lang/invoke/MethodHandle" ∧ x.cls ≠ "java/lang/invoke/VarHandle") (hp : parseMethodDescriptor x.desc = some sg) (hn : argsL.length = sg.parameters.length) (hst : st = argsL.reverse ++ .ref a :: rest)
    (hf : R'.frames + 1 ≤ R.frames) (hl : wt rest + (mL' + 11) + R'.locals ≤ R.locals) (hc : cells + R'.cells ≤ R.cells) (hs : slots + R'.slots ≤ R.slots)
    (nx : ∀ v As' Li', Q' v As' Li' → W G K y code ret R Q As' Li' (cells + R'.cells) (slots + R'.slots) (pc + 3) Ls (v.toList ++ rest)) : W G K y code ret R Q As Li cells slots pc Ls st := by
  intro T vm0 k0 locs ok X hS hk hN hI hL hF
  have hZ := ok_Z ok hS
  obtain ⟨cB, kB, q1, q2, q3⟩ := isOf (T := T) hZ rfl (hm.exa hI)
  obtain ⟨v, vm₁, B, hW1, X', hS', hg, hP, stp⟩ := X.virtualBackS ok.1 (ok_own ok hS) (mvT hZ wl) (mvT hZ wd) (nf _ hZ) (mvT hZ wsel) (mvT hZ wi) hy (backC hC hZ wc wz hf hl) q1 q3 (g := mkF K.m pc Ls.toArray st) rfl (by rw [ok.2.2.1]; simp) (Steps.refl _) (argsL := argsL) (rest := rest) (fun sig h => by cases hp.symm.trans h; exact hn) hst (wt_le rest) (hb ok.2.1 hd) (fun vm₁ hw => ⟨rfl, hI, hL.warm hw, hc, hs⟩)
  exact W.after ok hS hk hN hF hW1 X' hS' hg hP stp nx
theorem nf_sel {x : MethodName} (w : (Cond.selects C x x).before G.a0 G.Z = true) : ∀ s : State, G.Z.Warmed39 s.vm → NotFace s x := fun s hZ => notFace_of_selects (args := #[]) (mvT hZ w)
theorem nf_sup {x : MethodName} {S : String} (w : (Cond.superclass x.cls S).before G.a0 G.Z = true) : ∀ s : State, G.Z.Warmed39 s.vm → NotFace s x := fun s hZ => nf_super (args := #[]) (mvT hZ w)
theorem nf_tp {x : MethodName} (w : (Cond.noSuperclass x.cls).before G.a0 G.Z = true) : ∀ s : State, G.Z.Warmed39 s.vm → NotFace s x := fun s hZ => nf_top (args := #[]) (mvT hZ w)
/-- .. declared above the entry's class -/
theorem W.callU {x : MethodName} {owner : String} (hC : Ct G [] z code' mL' ret' R' (.ref a :: argsL) As Li Q') (hd : decode code pc = .ok (.invokevirtual idx, 3)) (hm : Is G As a C) (wl : (Cond.methodLink y.cls idx x).before G.a0 G.Z = true) (wsm : (Cond.sameMethod x.cls owner x.name x.desc).before G.a0 G.Z = true) (wd : (Cond.declares ⟨owner, x.name, x.desc⟩).before G.a0 G.Z = true) (ho : owner ≠ "java/lang/invoke/MethodHandle" ∧ owner ≠ "java/lang/invoke/VarHandle") (wsel : (Cond.selects C x z).before G.a0 G.Z = true)
    (wi : (Cond.instanceMethod z).before G.a0 G.Z = true) (wz : (Cond.initialized z.cls).before G.a0 G.Z = true) (wc : (Cond.code z code' mL' ret').before G.a0 G.Z = true)
    (hp : parseMethodDescriptor x.desc = some sg) (hn : argsL.length = sg.parameters.length) (hst : st = argsL.reverse ++ .ref a :: rest)
    (hf : R'.frames + 1 ≤ R.frames) (hl : wt rest + (mL' + 11) + R'.locals ≤ R.locals) (hc : cells + R'.cells ≤ R.cells) (hs : slots + R'.slots ≤ R.slots)
    (nx : ∀ v As' Li', Q' v As' Li' → W G K y code ret R Q As' Li' (cells + R'.cells) (slots + R'.slots) (pc + 3) Ls (v.toList ++ rest)) : W G K y code ret R Q As Li cells slots pc Ls st := by
  intro T vm0 k0 locs ok X hS hk hN hI hL hF
  have hZ := ok_Z ok hS
  obtain ⟨cB, kB, q1, q2, q3⟩ := isOf (T := T) hZ rfl (hm.exa hI)
  obtain ⟨v, vm₁, B, hW1, X', hS', hg, hP, stp⟩ := X.virtualBackUpS ok.1 (ok_own ok hS) (mvT hZ wl) (mvT hZ wsm) (mvT hZ wd) ho (mvT hZ wsel) (mvT hZ wi) (backC hC hZ wc wz hf hl) q1 q3 (g := mkF K.m pc Ls.toArray st) rfl (by rw [ok.2.2.1]; simp) (Steps.refl _) (argsL := argsL) (rest := rest) (fun sig h => by cases hp.symm.trans h; exact hn) hst (wt_le rest) (hb ok.2.1 hd) (fun vm₁ hw => ⟨rfl, hI, hL.warm hw, hc, hs⟩)
  exact W.after ok hS hk hN hF hW1 X' hS' hg hP stp nx
/-- through an interface -/
theorem W.callF {x : MethodName} {cnt : Nat} (hC : Ct G [] z code' mL' ret' R' (.ref a :: argsL) As Li Q') (hd : decode code pc = .ok (.invokeinterface idx cnt, 5)) (hm : Is G As a C) (wl : (Cond.methodLink y.cls idx x).before G.a0 G.Z = true) (wd : (Cond.declares x).before G.a0 G.Z = true) (wf : (Cond.interfaceMethod x.cls x.cls x.name x.desc).before G.a0 G.Z = true) (wsel : (Cond.selects C x z).before G.a0 G.Z = true)
    (wi : (Cond.instanceMethod z).before G.a0 G.Z = true) (wp : (Cond.publicMethod z).before G.a0 G.Z = true) (wu : (Cond.unhidden C x.name x.desc).before G.a0 G.Z = true) (wk : (Cond.castable C x.cls).before G.a0 G.Z = true) (wz : (Cond.initialized z.cls).before G.a0 G.Z = true) (wc : (Cond.code z code' mL' ret').before G.a0 G.Z = true)
    (hy : x.cls ≠ "java/lang/invoke/MethodHandle" ∧ x.cls ≠ "java/lang/invoke/VarHandle") (hfa : ((Cond.interfaceMethod x.cls x.cls x.name x.desc).onTables && (Cond.interfaceMethod x.cls x.cls x.name x.desc).keepsFace) = true) (hp : parseMethodDescriptor x.desc = some sg) (hn : argsL.length = sg.parameters.length) (hst : st = argsL.reverse ++ .ref a :: rest)
    (hf : R'.frames + 1 ≤ R.frames) (hl : wt rest + (mL' + 11) + R'.locals ≤ R.locals) (hc : cells + R'.cells ≤ R.cells) (hs : slots + R'.slots ≤ R.slots)
    (nx : ∀ v As' Li', Q' v As' Li' → W G K y code ret R Q As' Li' (cells + R'.cells) (slots + R'.slots) (pc + 5) Ls (v.toList ++ rest)) : W G K y code ret R Q As Li cells slots pc Ls st := by
  intro T vm0 k0 locs ok X hS hk hN hI hL hF
  have hZ := ok_Z ok hS
  obtain ⟨cB, kB, q1, q2, q3⟩ := isOf (T := T) hZ rfl (hm.exa hI)
  obtain ⟨v, vm₁, B, hW1, X', hS', hg, hP, stp⟩ := X.interfaceBackS ok.1 (ok_own ok hS) (mvT hZ wl) (mvT hZ wd) (mvT hZ wf hfa) (mvT hZ wsel) (mvT hZ wi) (mvT hZ wp) (mvT hZ wu) (mvT hZ wk) hy (backC hC hZ wc wz hf hl) q1 q2 q3 (g := mkF K.m pc Ls.toArray st) rfl (by rw [ok.2.2.1]; simp) (Steps.refl _) (argsL := argsL) (rest := rest) (fun sig h => by cases hp.symm.trans h; exact hn) hst (wt_le rest) (hb ok.2.1 hd) (fun vm₁ hw => ⟨rfl, hI, hL.warm hw, hc, hs⟩)
  exact W.after ok hS hk hN hF hW1 X' hS' hg hP stp nx
/-- a private method by invokevirtual -/
theorem W.callP (hC : Ct G [] z code' mL' ret' R' (.ref a :: argsL) As Li Q') (hd : decode code pc = .ok (.invokevirtual idx, 3)) (hm : Is G As a C) (wl : (Cond.methodLink y.cls idx z).before G.a0 G.Z = true) (wi : (Cond.instanceMethod z).before G.a0 G.Z = true) (wsel : (Cond.selects z.cls z z).before G.a0 G.Z = true) (wp : (Cond.privateMethod z).before G.a0 G.Z = true) (wz : (Cond.initialized z.cls).before G.a0 G.Z = true) (wc : (Cond.code z code' mL' ret').before G.a0 G.Z = true)
    (hy : z.cls ≠ "java/lang/invoke/MethodHandle" ∧ z.cls ≠ "java/lang/invoke/VarHandle") (hp : parseMethodDescriptor z.desc = some sg) (hn : argsL.length = sg.parameters.length) (hst : st = argsL.reverse ++ .ref a :: rest)
    (hf : R'.frames + 1 ≤ R.frames) (hl : wt rest + (mL' + 11) + R'.locals ≤ R.locals) (hc : cells + R'.cells ≤ R.cells) (hs : slots + R'.slots ≤ R.slots)
    (nx : ∀ v As' Li', Q' v As' Li' → W G K y code ret R Q As' Li' (cells + R'.cells) (slots + R'.slots) (pc + 3) Ls (v.toList ++ rest)) : W G K y code ret R Q As Li cells slots pc Ls st := by
  intro T vm0 k0 locs ok X hS hk hN hI hL hF
  have hZ := ok_Z ok hS
  obtain ⟨cl, q1, q2⟩ := (hm.exa hI).cell
  obtain ⟨v, vm₁, B, hW1, X', hS', hg, hP, stp⟩ := X.privateBackS ok.1 (ok_own ok hS) (mvT hZ wl) (mvT hZ wi) (mvT hZ wsel) (Cond.privateMethod_at (mvP hZ wp (args := #[]))) (mvT hZ wc) hy (backC hC hZ wc wz hf hl) (g := mkF K.m pc Ls.toArray st) rfl (by rw [ok.2.2.1]; simp) (Steps.refl _) (a := a) q1 q2 (argsL := argsL) (rest := rest) (fun sig h => by cases hp.symm.trans h; exact hn) hst (wt_le rest) (hb ok.2.1 hd) (fun vm₁ hw => ⟨rfl, hI, hL.warm hw, hc, hs⟩)
  exact W.after ok hS hk hN hF hW1 X' hS' hg hP stp nx
/-- super.m(..) -/
theorem W.callX (hC : Ct G [] z code' mL' ret' R' (.ref a :: argsL) As Li Q') (hd : decode code pc = .ok (.invokespecial idx, 3)) (hm : Is G As a C) (wl : (Cond.methodLink y.cls idx z).before G.a0 G.Z = true) (wsm : (Cond.sameMethod z.cls z.cls z.name z.desc).before G.a0 G.Z = true) (wi : (Cond.instanceMethod z).before G.a0 G.Z = true) (wsup : (Cond.superclass y.cls z.cls).before G.a0 G.Z = true) (hni : z.name ≠ "<init>") (wz : (Cond.initialized z.cls).before G.a0 G.Z = true) (wc : (Cond.code z code' mL' ret').before G.a0 G.Z = true)
    (hp : parseMethodDescriptor z.desc = some sg) (hn : argsL.length = sg.parameters.length) (hst : st = argsL.reverse ++ .ref a :: rest)
    (hf : R'.frames + 1 ≤ R.frames) (hl : wt rest + (mL' + 11) + R'.locals ≤ R.locals) (hc : cells + R'.cells ≤ R.cells) (hs : slots + R'.slots ≤ R.slots)
    (nx : ∀ v As' Li', Q' v As' Li' → W G K y code ret R Q As' Li' (cells + R'.cells) (slots + R'.slots) (pc + 3) Ls (v.toList ++ rest)) : W G K y code ret R Q As Li cells slots pc Ls st := by
  intro T vm0 k0 locs ok X hS hk hN hI hL hF
  have hZ := ok_Z ok hS
  obtain ⟨v, vm₁, B, hW1, X', hS', hg, hP, stp⟩ := superBackS X ok.1 hZ (ok_own ok hS) wl wsm wi wsup hni (backC hC hZ wc wz hf hl) rfl (Ins.self (hm.exa hI)) (g := mkF K.m pc Ls.toArray st) rfl (by rw [ok.2.2.1]; simp) wc (argsL := argsL) (rest := rest) (fun sig h => by cases hp.symm.trans h; exact hn) hst (wt_le rest) (hb ok.2.1 hd) (fun vm₁ hw => ⟨rfl, hI, hL.warm hw, hc, hs⟩)
  exact W.after ok hS hk hN hF hW1 X' hS' hg hP stp nx
end Calls
end Jvm.Own
namespace Jvm.Own
open Sem ClassFile Op Lib Jvm.Stand Jvm.Free Jvm.LawKit Jvm.RoadKit
/-! ### the case's start -/
theorem Inv.start (l : Launch) (s : State) (a0 : Array Value) (b : Bool) : Inv (l, s, a0, b) [] s.heap := ⟨⟨Nat.le_refl _, fun _ _ q => q⟩, List.Pairwise.nil, fun _ h => nomatch h⟩
theorem LI.start (s : State) : LI s s.vm [] := ⟨IB.start, fun _ h => nomatch h⟩
end Jvm.Own
namespace Jvm.Own
open Sem ClassFile Op Lib Bundle Jvm.Stand Jvm.Free Jvm.Free.SB Jvm.Free.SBG Jvm.LawKit Jvm.RoadKit
/-! ### String constants -/
theorem own_fold (xs : List Cell) : ∀ n : Nat, xs.foldl (fun n c => n + c.slots.size) n = n + (xs.map fun c => c.slots.size).sum := by
  induction xs with
  | nil => intro n; simp
  | cons x xs ih => intro n; simp only [List.foldl_cons, List.map_cons, List.sum_cons]; rw [ih]; omega
theorem own_foldA (h : Heap) : h.foldl (fun n c => n + c.slots.size) 0 = (h.toList.map fun c => c.slots.size).sum := by
  rw [← Array.foldl_toList, own_fold]; omega
theorem own_split {h h' : Heap} (E : Ext h h') : h'.toList = h.toList ++ h'.toList.drop h.size := by
  refine List.ext_getElem? fun i => ?_
  by_cases hi : i < h.size
  · rw [List.getElem?_append_left (by simpa using hi), Array.getElem?_toList, Array.getElem?_toList, Array.getElem?_eq_getElem hi]
    exact E.2 i _ (Array.getElem?_eq_getElem hi)
  · rw [List.getElem?_append_right (by simpa using Nat.le_of_not_lt hi), List.getElem?_drop]
    simp only [Array.length_toList]
    congr 1
    omega
theorem own_sums {h h' : Heap} (E : Ext h h') : (h'.toList.map fun c => c.slots.size).sum = (h.toList.map fun c => c.slots.size).sum + ((h'.toList.drop h.size).map fun c => c.slots.size).sum := by
  conv => lhs; rw [own_split E]
  simp
/-- the invocation, told as if it had begun at the case's own heap -/
abbrev rebS0 (G : Gx) (s : State) (vm0 : Vm) : State := { s with vm := vm0, heap := G.Z.heap, slotsUsed := (G.Z.heap.toList.map fun c => c.slots.size).sum }
theorem rebase {G : Gx} {p : Program} {l : Launch} {e : Env} {R : Room} {s : State} {vm0 : Vm} {m : MethodId} {args : Array Value} {below : List Frame} {meth : Method} {c : Code} {T : State} {locs : List Loc} {cells slots : Nat}
    (X : Stand p l e R (s.setVm vm0) m args below meth c T locs cells slots) (E : Ext G.Z.heap T.heap) (hc : cells ≤ R.cells) (hs : slots ≤ R.slots) :
    Stand p l e { R with cells := (T.heap.size - G.Z.heap.size) + (R.cells - cells), slots := ((T.heap.toList.drop G.Z.heap.size).map fun c => c.slots.size).sum + (R.slots - slots) } (rebS0 G s vm0) m args below meth c T [] (T.heap.size - G.Z.heap.size) ((T.heap.toList.drop G.Z.heap.size).map fun c => c.slots.size).sum := by
  have bk : T.slotsUsed = (T.heap.toList.map fun c => c.slots.size).sum := by
    have h := X.book
    simp only [State.slotsTrue, beq_iff_eq] at h
    rw [h]; exact own_foldA _
  have sm := own_sums E
  have h1 := X.heapSize
  have h2 := X.used
  have hE := E.1
  refine ⟨X.admits, X.cas, X.clock, X.frames, ?_, X.hears, X.method, X.code, X.here, X.tail, X.warmed, X.limits, X.bytes, X.same.1, hE, ?_, ?_, Nat.le_refl _, fun a c h => ⟨c, E.2 a c h, rfl, rfl, fun _ _ => rfl⟩⟩
  · have h := X.room
    simp only [State.hasRoom, Bool.and_eq_true, decide_eq_true_eq] at h ⊢
    obtain ⟨⟨⟨⟨r1, r2⟩, r3⟩, r4⟩, r5⟩ := h
    have r3' : s.heap.size + R.cells ≤ e.platform.maxCells := r3
    have r4' : s.slotsUsed + R.slots ≤ e.platform.maxSlots := r4
    have h1' : T.heap.size ≤ s.heap.size + cells := h1
    have h2' : T.slotsUsed ≤ s.slotsUsed + slots := h2
    refine ⟨⟨⟨⟨r1, r2⟩, ?_⟩, ?_⟩, ?_⟩
    · show G.Z.heap.size + ((T.heap.size - G.Z.heap.size) + (R.cells - cells)) ≤ e.platform.maxCells
      omega
    · show (G.Z.heap.toList.map fun c => c.slots.size).sum + (((T.heap.toList.drop G.Z.heap.size).map fun c => c.slots.size).sum + (R.slots - slots)) ≤ e.platform.maxSlots
      omega
    · show (_ == _) = true
      rw [beq_iff_eq]
      exact (own_foldA _).symm
  · show T.heap.size ≤ G.Z.heap.size + (T.heap.size - G.Z.heap.size)
    omega
  · show T.slotsUsed = (G.Z.heap.toList.map fun c => c.slots.size).sum + _
    rw [bk, sm]; rfl
def litF : List Fd := [("java/lang/String", "value", "[B"), ("java/lang/String", "coder", "B")]
section Laws
variable {G : Gx} {K : Kx} {y : MethodName} {code : ByteArray} {ret : Option FieldType} {R : Room} {Q : Qx} {As As' : List Ent} {Li Li' : List LitE} {cells slots pc pc' : Nat} {Ls Ls' : List Slot} {st st' : List Value} {idx : Nat} {a : Addr}
theorem W.ldcA {text : String} (hd : decode code pc = .ok (.ldc idx, 2)) (w : (Cond.stringLink y.cls idx text).before G.a0 G.Z = true) (hl : (y.cls, idx, text, a) ∈ Li)
    (nx : W G K y code ret R Q As Li cells slots (pc + 2) Ls (.ref a :: st)) : W G K y code ret R Q As Li cells slots pc Ls st := by
  intro T vm0 k0 locs ok X hS hk hN hI hL hF
  obtain ⟨U, u, h1, h2⟩ := nx T vm0 k0 locs ok X hS hk hN hI hL hF
  exact ⟨U, u, ldcAgain X ok.1 (ok_Z ok hS) (ok_own ok hS) w (hL.2 _ hl) (g := mkF K.m pc Ls.toArray st) rfl (hb ok.2.1 hd) _ h1, h2⟩
theorem W.ldcT {text : String} {vs : List Value} {n : Nat} (hnw : G.nw = false) (hd : decode code pc = .ok (.ldc idx, 2)) (w : (Cond.stringLink y.cls idx text).before G.a0 G.Z = true) (wS : ∀ a ∈ Bundle.stringAtoms, a.before G.a0 G.Z = true)
    (hh : Jvm.Lit.constHeld G.Z y.cls idx) (hcw : Jvm.Lit.compactW.before G.a0 G.Z = true) (hnot : text ∉ Li.map fun q => q.2.2.1) (ht : (∀ c ∈ text.toList, c.toNat < 256) ∧ text.toList.map (fun c => Value.int (Jvm.Lit.byteI c.toNat.toUInt16)) = vs)
    (hn : 4 * text.toList.length ≤ n) (hbig : n ≤ 536870912) (hc : cells + 2 ≤ R.cells) (hs : slots + (n + 4) ≤ R.slots)
    (nx : ∀ a b, W G K y code ret R Q ((a, false, obj "java/lang/String" litF [.ref b, .int 0]) :: (b, false, arr .byte vs) :: As) ((y.cls, idx, text, a) :: Li) (cells + 2) (slots + (n + 4)) (pc + 2) Ls (.ref a :: st)) : W G K y code ret R Q As Li cells slots pc Ls st := by
  intro T vm0 k0 locs ok X hS hk hN hI hL hF
  have hZ : G.Z.Warmed39 vm0 := ok_Z ok hS
  have E0 := hI.old
  have wi : (Cond.instantiable "java/lang/String" 4).before G.a0 G.Z = true := wS _ (by simp [Bundle.stringAtoms, Bundle.sN])
  have wa : (Cond.arrayClass .byte).before G.a0 G.Z = true := wS _ (by simp [Bundle.stringAtoms])
  have Y := rebase X E0 (by omega) (by omega)
  have hH : ConstHeldL ((rebS0 G K.s vm0).setVm vm0) y.cls idx := heldCarry (s := rebS0 G K.s vm0) hZ w hL.1 hnot (fun _ _ h => h) (heldStart hh w ht.1 hcw wa wi)
  obtain ⟨a, T', Y', hS', ⟨kk, hkk, hrr⟩, hb', h1', hint, ⟨units, htext, hin⟩, st'⟩ := Y.ldcColdF (fun b cl h => E0.2 b cl h) ok.1 (own := y.cls) (text := text) (index := idx) (ok_own ok hS)
    (mvS (s := rebS0 G K.s vm0) hZ w) (fun d hd => by
      have q := wS d hd
      simp only [Bundle.stringAtoms, List.mem_cons, List.not_mem_nil, or_false] at hd
      rcases hd with rfl | rfl | rfl | rfl | rfl | rfl | rfl
      · exact mv (s := rebS0 G K.s vm0) hZ q
      · exact mv (s := rebS0 G K.s vm0) hZ q
      · exact mvA (s := rebS0 G K.s vm0) hZ q
      · exact mv (s := rebS0 G K.s vm0) hZ q
      · exact mv (s := rebS0 G K.s vm0) hZ q
      · exact mv (s := rebS0 G K.s vm0) hZ q
      · exact mv (s := rebS0 G K.s vm0) hZ q) hH (fun units hu => Jvm.ClassFile.lat_of_text hu ht.1) (g := mkF K.m pc Ls.toArray st) rfl (hb ok.2.1 hd) hn hbig (by show _ + 2 ≤ _ + _; omega) (by show _ + _ ≤ _ + _; omega)
  have hW : G.Z.Warmed39 T'.vm := State.Warmed39.trans (t := rebS0 G K.s vm0) hZ hS'.1
  have hal : G.Z.vm.Alike T'.vm := hW.alike
  have hTi : T.vm.interned = vm0.interned := X.warmed.interned_eq
  have E : Ext T.heap T'.heap := ext_of hb'
  have hW0 : (K.s.setVm vm0).Warmed39 T'.vm := hS'.1
  -- the invocation stands again, told of its own start
  have X1 := X.retabled hW0
  have hsz : T'.heap.size ≤ T.heap.size + 2 := by
    have q := Y'.heapSize
    have q' : T'.heap.size ≤ G.Z.heap.size + ((T.heap.size - G.Z.heap.size) + 2) := q
    have := E0.1
    omega
  have sm0 := own_sums E0
  have sm1 := own_sums E
  have sm2 := own_sums (h := G.Z.heap) (h' := T'.heap) ⟨Nat.le_trans E0.1 E.1, fun x c q => E.2 x c (E0.2 x c q)⟩
  have bk : T.slotsUsed = (T.heap.toList.map fun c => c.slots.size).sum := by
    have h := X.book
    simp only [State.slotsTrue, beq_iff_eq] at h
    rw [h]; exact own_foldA _
  have bk' : T'.slotsUsed = (T'.heap.toList.map fun c => c.slots.size).sum := by
    have h := Y'.book
    simp only [State.slotsTrue, beq_iff_eq] at h
    rw [h]; exact own_foldA _
  have hsame : (T.setVm T'.vm).sameButNew (T'.setVm T'.vm) [] 2 (n + 4) := by
    have q1 := Y'.same
    have q0 := X.same
    refine ⟨?_, E.1, hsz, ?_, ?_, fun a c h => ⟨c, E.2 a c h, rfl, rfl, fun _ _ => rfl⟩⟩
    · have e1 : T' = ({ (K.s.setVm vm0).setFrames T'.frames with heap := T'.heap, slotsUsed := T'.slotsUsed } : State).setVm T'.vm := by
        have h := congrArg (fun s : State => s.setVm T'.vm) q1.1
        exact h
      have e0 : T = ({ (K.s.setVm vm0).setFrames T.frames with heap := T.heap, slotsUsed := T.slotsUsed } : State).setVm T.vm := by
        have h := congrArg (fun s : State => s.setVm T.vm) q0.1
        exact h
      have e2 : (T.setVm T'.vm).setFrames T'.frames = ({ (K.s.setVm vm0).setFrames T'.frames with heap := T.heap, slotsUsed := T.slotsUsed } : State).setVm T'.vm := by
        have e3 : (T.setVm T'.vm).setFrames T'.frames = ((({ (K.s.setVm vm0).setFrames T.frames with heap := T.heap, slotsUsed := T.slotsUsed } : State).setVm T.vm).setVm T'.vm).setFrames T'.frames := by rw [← e0]
        rw [e3]
        show ({ ((K.s.setVm vm0).setFrames T.frames).setFrames T'.frames with heap := T.heap, slotsUsed := T.slotsUsed, vm := T'.vm } : State) = _
        rw [State.setFrames_setFrames]
        rfl
      show T' = { (T.setVm T'.vm).setFrames T'.frames with heap := T'.heap, slotsUsed := T'.slotsUsed }
      rw [e2]
      exact e1
    · show T'.slotsUsed = T.slotsUsed + _
      rw [bk, bk']; exact sm1
    · have q : ((T'.heap.toList.drop G.Z.heap.size).map fun c => c.slots.size).sum ≤ ((T.heap.toList.drop G.Z.heap.size).map fun c => c.slots.size).sum + (n + 4) := q1.2.2.2.2.1
      show ((T'.heap.toList.drop T.heap.size).map fun c => c.slots.size).sum ≤ n + 4
      omega
  have X2 := X1.moved (T₂ := T') Y'.here Y'.tail (Y'.limits.trans X.limits.symm) (Y'.bytes.trans X.bytes.symm) (State.WarmedH.refl _) hsame
  rw [List.append_nil] at X2
  have hB : (K.s.setVm vm0).Booked T'.vm T'.heap.size := State.Booked.step (X.warmed.no_new_pair _) X.same.2.1 h1'
  have hSn : K.s.Since T'.vm T'.heap.size := hS.trans ⟨hW0, hB⟩ (Nat.le_trans hk E.1)
  -- what she is
  obtain ⟨q, cS, hqa, ⟨⟨s1, s2, s3, ⟨cv, kv, iv, s4, s4'⟩, ⟨cc, kc, ic, s5, s5'⟩, s6, s7, s8, s9, s10, s11, s12, s13, s14, s15, s16⟩, hfS, hcS⟩, ⟨kS, k1, k2, k3⟩, hB', hbyt, hpl⟩ := hin
  subst hqa
  obtain ⟨kv', z4⟩ := ff_back hal s4
  obtain ⟨kc', z5⟩ := ff_back hal s5
  have hfZ : G.Z.vm.findClass "java/lang/String" = some q.sC.cls := by rw [← hal.findClass, hcS]; exact hfS
  obtain ⟨kz, hkz, -⟩ := Vm.findClass_spec hfZ
  obtain ⟨kz', hkz', ekz⟩ := hal.2.2 _ _ hkz
  have ekS : kz' = kS := Option.some.inj (hkz'.symm.trans (hcS ▸ k1))
  have hBZ : G.Z.vm.findClass "[B" = some q.SA.cls := by rw [← hal.findClass]; exact hB'
  obtain ⟨kb, hkb, -⟩ := Vm.findClass_spec hBZ
  obtain ⟨kb', hkb', ekb⟩ := hal.2.2 _ _ hkb
  obtain ⟨hst, k9, hk9, comp, hkind9⟩ := s11
  have ek9 : k9 = kb' := Option.some.inj (hk9.symm.trans hkb')
  have hAZ : G.Z.isArrayOf q.SA .byte := ⟨hst, kb, hkb, comp, by rw [ek9, ekb] at hkind9; exact hkind9⟩
  have hlat := Jvm.ClassFile.lat_of_text htext ht.1
  have eu : vs = units.toList.map fun u => Value.int (Jvm.Lit.byteI u) := by rw [← ht.2, Jvm.ClassFile.units_of_text htext ht.1, List.map_map]; rfl
  have hsl0 : q.SA.slots = units.map fun u => Value.int (Jvm.Lit.byteI u) := by rw [hbyt, SBG.stringBytes_lat hlat]; rfl
  have hsl : q.SA.slots.toList = vs := by rw [hsl0, eu, Array.toList_map]
  have D1 : Des G.Z G.a0 T'.heap q.sa false (obj "java/lang/String" litF [.ref q.sd, .int 0]) := by
    refine ⟨⟨q.sC, kz, s1, hfZ, hkz, s3, fun ho => by rw [k3, ← ekS, ekz]⟩, rfl, fun i f v hf hv => ?_, fun q => nomatch q⟩
    match i, hf, hv with
    | 0, hf, hv => cases hf; cases hv; exact ⟨q.sC, cv, kv', iv, q.fSV, s1, z4, s6, s2, s3, by rw [← hal.assignable]; exact s4', s8⟩
    | 1, hf, hv => cases hf; cases hv; exact ⟨q.sC, cc, kc', ic, q.fSC, s1, z5, s7, s2, s3, by rw [← hal.assignable]; exact s5', s9⟩
  have D2 : Des G.Z G.a0 T'.heap q.sd false (arr .byte vs) := by
    refine ⟨q.SA, ⟨s10, hAZ, s12⟩, hsl, ?_, fun v hv => ?_, fun q => nomatch q⟩
    · rw [← hsl]; simpa [s13] using s14
    · rw [← hsl] at hv
      obtain ⟨i, hi, rfl⟩ := List.getElem_of_mem hv
      have hi' : i < q.SA.slots.size := by simpa using hi
      have := s16 i hi'
      rw [Array.getD_eq_getD_getElem?, Array.getElem?_eq_getElem hi'] at this
      simpa using this
  have hI' := hI.ext E
  have far : ∀ e ∈ As, e.2.1 = true → q.sa ≠ e.1 ∧ q.sd ≠ e.1 := fun e he hw => by
    have g1 := (hI.2.2 e he).1 hw
    have g2 := (hI.2.2 e he).2.lt
    rcases hpl with ⟨p1, p2⟩ | ⟨p1, p2⟩
    · exact ⟨Nat.ne_of_lt (Nat.lt_of_lt_of_le p1 g1), Nat.ne_of_lt (Nat.lt_of_lt_of_le p2 g1)⟩
    · exact ⟨(Nat.ne_of_lt (Nat.lt_of_lt_of_le g2 p1)).symm, (Nat.ne_of_lt (Nat.lt_of_lt_of_le g2 p2)).symm⟩
  have hI2 : Inv G ((q.sa, false, obj "java/lang/String" litF [.ref q.sd, .int 0]) :: (q.sd, false, arr .byte vs) :: As) T'.heap := by
    refine ⟨hI'.1, ?_, fun e he => ?_⟩
    · refine List.pairwise_cons.mpr ⟨fun p hp hw => ?_, List.pairwise_cons.mpr ⟨fun p hp hw => ?_, hI.2.1⟩⟩
      · rcases List.mem_cons.mp hp with rfl | hp
        · rcases hw with hw | hw <;> cases hw
        · obtain ⟨e, he, rfl⟩ := List.mem_map.mp hp
          rcases hw with hw | hw
          · cases hw
          · exact (far e he hw).1
      · obtain ⟨e, he, rfl⟩ := List.mem_map.mp hp
        rcases hw with hw | hw
        · cases hw
        · exact (far e he hw).2
    · rcases List.mem_cons.mp he with rfl | he
      · exact ⟨fun q => (nomatch q), D1⟩
      · rcases List.mem_cons.mp he with rfl | he
        · exact ⟨fun q => (nomatch q), D2⟩
        · exact hI'.2.2 e he
  have hLi : LI G.Z T'.vm ((y.cls, idx, text, q.sa) :: Li) := by
    refine ⟨hL.1.step (by rw [← hTi]; exact hint), fun r hr => ?_⟩
    rcases List.mem_cons.mp hr with rfl | hr
    · have hf : T'.vm.findClass y.cls = some K.m.cls := by rw [hW0.alike.findClass]; exact ok_own ok hS
      show State.resolvedAt? (G.Z.setVm T'.vm) y.cls idx = _
      simp [State.resolvedAt?, State.setVm, hf, hkk, hrr]
    · exact Lit.stays (s := K.s) (hL.2 r hr) hW0
  obtain ⟨U, u, g1, g2⟩ := nx q.sa q.sd T' T'.vm T'.heap.size locs ok X2 hSn (Nat.le_refl _) (fun q => by rw [hnw] at q; cases q) hI2 hLi hF
  exact ⟨U, u, st' _ g1, g2⟩
end Laws
end Jvm.Own
namespace Jvm.Own
open Sem ClassFile Op Lib Bundle Jvm.Stand Jvm.Free Jvm.LawKit Jvm.RoadKit
/-! ### what is known of a list that is not written out -/
abbrev STR : String := "java/lang/String"
section Strs
variable {G : Gx} {As As' : List Ent} {a b x : Addr} {w : Bool} {C D O n d : String} {v : Value} {fs fs' : List Fd} {vs vs' : List Value} {t t' : FieldType} {sc sc' : SC} {e : Ent} {cod : Int32} {h : Heap}
def Sub (As As' : List Ent) : Prop := ∀ e ∈ As, e ∈ As'
theorem Sub.refl (As : List Ent) : Sub As As := fun _ h => h
theorem Sub.cons (q : Sub As As') : Sub As (e :: As') := fun x hx => List.mem_cons_of_mem _ (q x hx)
theorem Sub.trans {As'' : List Ent} (q : Sub As As') (r : Sub As' As'') : Sub As As'' := fun x hx => r x (q x hx)
theorem Sub.trans' {As'' : List Ent} (r : Sub As' As'') (q : Sub As As') : Sub As As'' := fun x hx => r x (q x hx)
theorem Upd.mid {pre post : List Ent} : Upd (pre ++ (a, true, sc) :: post) a sc sc' (pre ++ (a, true, sc') :: post) := ⟨pre, post, rfl, rfl⟩
theorem Upd.new (u : Upd As a sc sc' As') : (a, true, sc') ∈ As' := by obtain ⟨pre, post, rfl, rfl⟩ := u; simp
theorem Upd.other (u : Upd As a sc sc' As') (he : e ∈ As) (hne : e ≠ (a, true, sc)) : e ∈ As' := by
  obtain ⟨pre, post, rfl, rfl⟩ := u
  rcases List.mem_append.mp he with he | he
  · exact List.mem_append_left _ he
  · rcases List.mem_cons.mp he with rfl | he
    · exact absurd rfl hne
    · exact List.mem_append_right _ (List.mem_cons_of_mem _ he)
theorem Upd.of_mem (hm : (a, true, sc) ∈ As) (sc' : SC) : ∃ As', Upd As a sc sc' As' := by
  obtain ⟨pre, post, rfl⟩ := List.append_of_mem hm; exact ⟨_, pre, post, rfl, rfl⟩
def FIn (G : Gx) (As : List Ent) (a : Addr) (C O n d : String) (v : Value) : Prop := (∃ w fs vs, (a, w, obj C fs vs) ∈ As ∧ FAt fs vs O n d v) ∨ Fld G.Z G.Z.heap a O n d v
theorem FIn.mem (hm : (a, w, obj C fs vs) ∈ As) (q : FAt fs vs O n d v) : FIn G As a C O n d v := Or.inl ⟨w, fs, vs, hm, q⟩
theorem FIn.old (F : Fld G.Z G.Z.heap a O n d v) : FIn G As a C O n d v := Or.inr F
theorem FIn.fld (q : FIn G As a C O n d v) (I : Inv G As h) : Fld G.Z h a O n d v := by
  rcases q with ⟨w, fs, vs, hm, q⟩ | F
  · exact I.fld hm q
  · exact F.ext I.old
theorem FIn.sub (q : FIn G As a C O n d v) (s : Sub As As') : FIn G As' a C O n d v := q.imp (fun ⟨w, fs, vs, hm, r⟩ => ⟨w, fs, vs, s _ hm, r⟩) id
theorem Is.sub (q : Is G As a C) (s : Sub As As') : Is G As' a C := q.imp (fun ⟨w, fs, vs, hm⟩ => ⟨w, fs, vs, s _ hm⟩) id
theorem AVin.sub (q : AVin G As a t vs) (s : Sub As As') : AVin G As' a t vs := q.imp (fun ⟨w, hm⟩ => ⟨w, s _ hm⟩) id
theorem Is.upd (q : Is G As x C) (u : Upd As a (obj D fs vs) (obj D fs' vs') As') : Is G As' x C := by
  rcases q with ⟨w, f, v, hm⟩ | E
  · by_cases hne : ((x, w, obj C f v) : Ent) = (a, true, obj D fs vs)
    · have h1 := congrArg Prod.fst hne
      have h2 := congrArg (fun e : Ent => e.2.2) hne
      simp only [obj, Sum.inl.injEq, Prod.mk.injEq] at h1 h2
      obtain ⟨rfl, -, -⟩ := h2
      subst h1
      exact Or.inl ⟨_, _, _, u.new⟩
    · exact Or.inl ⟨w, f, v, u.other hm hne⟩
  · exact Or.inr E
theorem Is.updA (q : Is G As x C) (u : Upd As a (arr t vs) sc' As') : Is G As' x C := by
  rcases q with ⟨w, f, v, hm⟩ | E
  · exact Or.inl ⟨w, f, v, u.other hm (fun q => by simp at q)⟩
  · exact Or.inr E
theorem FIn.upd (q : FIn G As x C O n d v) (u : Upd As a (obj D fs vs) sc' As') (hD : C ≠ D) : FIn G As' x C O n d v := by
  rcases q with ⟨w, f, v, hm, r⟩ | F
  · exact Or.inl ⟨w, f, v, u.other hm (fun q => hD (by simp at q; exact q.2.2.1)), r⟩
  · exact Or.inr F
theorem FIn.updA (q : FIn G As x C O n d v) (u : Upd As a (arr t vs) sc' As') : FIn G As' x C O n d v := by
  rcases q with ⟨w, f, v, hm, r⟩ | F
  · exact Or.inl ⟨w, f, v, u.other hm (fun q => by simp at q), r⟩
  · exact Or.inr F
theorem AVin.upd (q : AVin G As x t vs) (u : Upd As a (obj D fs vs') sc' As') : AVin G As' x t vs := by
  rcases q with ⟨w, hm⟩ | A
  · exact Or.inl ⟨w, u.other hm (fun q => by simp at q)⟩
  · exact Or.inr A
theorem AVin.updT (q : AVin G As x t vs) (u : Upd As a (arr t' vs') sc' As') (ht : t ≠ t') : AVin G As' x t vs := by
  rcases q with ⟨w, hm⟩ | A
  · exact Or.inl ⟨w, u.other hm (fun q => ht (by simp at q; exact q.2.2.1))⟩
  · exact Or.inr A
/-- a String: its bytes, its coder -/
def StrIn (G : Gx) (As : List Ent) (a : Addr) (bs : List Value) (cod : Int32) : Prop :=
  ∃ b, Is G As a STR ∧ FIn G As a STR STR "value" "[B" (.ref b) ∧ FIn G As a STR STR "coder" "B" (.int cod) ∧ AVin G As b .byte bs
theorem StrIn.sub (q : StrIn G As a vs cod) (s : Sub As As') : StrIn G As' a vs cod := by
  obtain ⟨b, h1, h2, h3, h4⟩ := q; exact ⟨b, h1.sub s, h2.sub s, h3.sub s, h4.sub s⟩
theorem StrIn.upd {us : List Value} (q : StrIn G As x vs cod) (u : Upd As a (obj D fs vs') (obj D fs' us) As') (hD : STR ≠ D) : StrIn G As' x vs cod := by
  obtain ⟨b, h1, h2, h3, h4⟩ := q; exact ⟨b, h1.upd u, h2.upd u hD, h3.upd u hD, h4.upd u⟩
theorem StrIn.is (q : StrIn G As a vs cod) : Is G As a STR := by obtain ⟨b, h1, -⟩ := q; exact h1
/-- a String constant: not loaded yet, or here -/
def LitOk (As : List Ent) (Li : List LitE) (own : String) (idx : Nat) (text : String) (vs : List Value) : Prop :=
  (text ∉ Li.map fun q => q.2.2.1) ∨ ∃ a b, (own, idx, text, a) ∈ Li ∧ (a, false, obj STR litF [.ref b, .int 0]) ∈ As ∧ (b, false, arr .byte vs) ∈ As
theorem LitOk.sub {Li : List LitE} {own text : String} {idx : Nat} (q : LitOk As Li own idx text vs) (s : Sub As As') : LitOk As' Li own idx text vs :=
  q.imp id fun ⟨a, b, h1, h2, h3⟩ => ⟨a, b, h1, s _ h2, s _ h3⟩
theorem LitOk.upd {Li : List LitE} {own text : String} {idx : Nat} (q : LitOk As Li own idx text vs) (u : Upd As a sc sc' As') : LitOk As' Li own idx text vs :=
  q.imp id fun ⟨a, b, h1, h2, h3⟩ => ⟨a, b, h1, u.other h2 (fun q => by simp at q), u.other h3 (fun q => by simp at q)⟩
theorem LitOk.str {a b : Addr} (h2 : (a, false, obj STR litF [.ref b, .int 0]) ∈ As) (h3 : (b, false, arr .byte vs) ∈ As) : StrIn G As a vs 0 :=
  ⟨b, Is.mem h2, FIn.mem h2 FAt.head, FIn.mem h2 (FAt.tail FAt.head), AVin.mem h3⟩
end Strs
section Laws
variable {G : Gx} {K : Kx} {y : MethodName} {code : ByteArray} {ret : Option FieldType} {R : Room} {Q : Qx} {As As' : List Ent} {Li Li' : List LitE} {cells slots pc pc' : Nat} {Ls Ls' : List Slot} {st st' : List Value} {idx : Nat} {a : Addr} {C O n d R0 host : String} {v : Value}
theorem W.getI (wl : (Cond.fieldLink y.cls idx R0 n d).before G.a0 G.Z = true ∨ (Cond.fieldLinkNest y.cls idx R0 n d host).before G.a0 G.Z = true) (via : Via G.Z R0 O n d) (hd : decode code pc = .ok (.getfield idx, 3))
    (hf : FIn G As a C O n d v) (nx : W G K y code ret R Q As Li cells slots (pc + 3) Ls (v :: st)) : W G K y code ret R Q As Li cells slots pc Ls (.ref a :: st) := by
  intro T vm0 k0 locs ok X hS hk hN hI hL hF
  obtain ⟨T', X', e', st'⟩ := Jvm.RoadKit.getF X ok.1 (ok_Z ok hS) (ok_own ok hS) wl via rfl (hf.fld hI) (g := mkF K.m pc Ls.toArray (.ref a :: st)) rfl rfl (hb ok.2.1 hd)
  obtain ⟨U, u, h1, h2⟩ := nx T' vm0 k0 locs ok X' hS (by rw [e']; exact hk) hN (by rw [e']; exact hI) hL hF
  exact ⟨U, u, st' _ h1, h2⟩
/-- 'ldc' of a String constant, loaded already or not -/
theorem W.ldcL {text : String} {vs : List Value} {n : Nat} (hl : LitOk As Li y.cls idx text vs) (hnw : G.nw = false) (hd : decode code pc = .ok (.ldc idx, 2)) (w : (Cond.stringLink y.cls idx text).before G.a0 G.Z = true) (wS : ∀ a ∈ Bundle.stringAtoms, a.before G.a0 G.Z = true)
    (hh : Jvm.Lit.constHeld G.Z y.cls idx) (hcw : Jvm.Lit.compactW.before G.a0 G.Z = true) (ht : (∀ c ∈ text.toList, c.toNat < 256) ∧ text.toList.map (fun c => Value.int (Jvm.Lit.byteI c.toNat.toUInt16)) = vs)
    (hn : 4 * text.toList.length ≤ n) (hbig : n ≤ 536870912) (hc : cells + 2 ≤ R.cells) (hs : slots + (n + 4) ≤ R.slots)
    (nx : ∀ a b As' Li', (a, false, obj STR litF [.ref b, .int 0]) ∈ As' → (b, false, arr .byte vs) ∈ As' → (y.cls, idx, text, a) ∈ Li' → ((As' = As ∧ Li' = Li) ∨ (As' = (a, false, obj STR litF [.ref b, .int 0]) :: (b, false, arr .byte vs) :: As ∧ Li' = (y.cls, idx, text, a) :: Li)) →
      W G K y code ret R Q As' Li' (cells + 2) (slots + (n + 4)) (pc + 2) Ls (.ref a :: st)) : W G K y code ret R Q As Li cells slots pc Ls st := by
  rcases hl with hl | ⟨a, b, h1, h2, h3⟩
  · exact W.ldcT hnw hd w wS hh hcw hl ht hn hbig hc hs fun a b => nx a b _ _ (List.Mem.head _) (List.Mem.tail _ (List.Mem.head _)) (List.Mem.head _) (Or.inr ⟨rfl, rfl⟩)
  · exact W.ldcA hd w h1 (W.mono (nx a b As Li h2 h3 h1 (Or.inl ⟨rfl, rfl⟩)) (Nat.le_add_right _ _) (Nat.le_add_right _ _))
end Laws
/-! ### small numbers as ints -/
theorem n_toInt {a : Nat} (h : a < 2147483648) : a.toInt32.toInt = a := len_toInt (by simpa using h)
theorem n_lt {a b : Nat} (h : a < b) (hb : b < 2147483648) : a.toInt32 < b.toInt32 := by
  rw [Int32.lt_iff_toInt_lt, n_toInt hb, n_toInt (by omega)]; omega
theorem n_nlt {a b : Nat} (h : b ≤ a) (ha : a < 2147483648) : ¬ a.toInt32 < b.toInt32 := by
  rw [Int32.lt_iff_toInt_lt, n_toInt ha, n_toInt (by omega)]; omega
theorem n_nn {a : Nat} (h : a < 2147483648) : ¬ a.toInt32 < 0 := by
  rw [Int32.lt_iff_toInt_lt, n_toInt h]; show ¬ ((a : Int) < 0); omega
theorem n_clamp {a : Nat} (h : a < 2147483648) : a.toInt32.toNatClampNeg = a := by
  simp only [Int32.toNatClampNeg, n_toInt h]; omega
theorem n_succ (a : Nat) : a.toInt32 + 1 = (a + 1).toInt32 := by
  show Int32.ofNat a + 1 = Int32.ofNat (a + 1)
  rw [Int32.ofNat_add]; rfl
theorem store_one {Ls : List Slot} {k : Nat} {o : Slot} {v : Value} (hold : Ls[k]? = some o) (ho : One o) (hv : v.category = 1) : storeLocals Ls.toArray k v = some (Ls.set k (.val v)).toArray := by
  rw [Jvm.Free.XS.store1 (o := o) (by simpa using hold) ho hv]; simp
theorem byt_fits (z : Int32) : fits .byte (.int z.toInt8.toInt32) = true := fits_nar_byte z
end Jvm.Own
namespace Jvm.Own
open Sem ClassFile Op Lib Bundle Jvm.Stand Jvm.Free Jvm.LawKit Jvm.RoadKit
abbrev byt (z : Int32) : Value := .int z.toInt8.toInt32
theorem n_ne0 {a : Nat} (h0 : 0 < a) (h : a < 2147483648) : ¬ a.toInt32 = 0 := fun e => by
  have := congrArg Int32.toInt e
  rw [n_toInt h] at this
  have h0' : (0 : Int32).toInt = 0 := rfl
  omega
theorem own_fill (cs : List Int32) {k m : Nat} (hk : k < cs.length) (hm : k + (m + 1) = cs.length) :
    ((cs.take k).map byt ++ List.replicate (m + 1) (Value.int 0)).set k (byt cs[k]) = (cs.take (k + 1)).map byt ++ List.replicate m (Value.int 0) := by
  have hl : ((cs.take k).map byt).length = k := by simp; omega
  rw [List.set_append_right _ _ (by omega), hl, Nat.sub_self, List.replicate_succ, List.set_cons_zero, List.take_succ_eq_append_getElem hk, List.map_append, List.append_assoc]
  rfl
theorem own_done (cs : List Int32) : (cs.take cs.length).map byt ++ List.replicate 0 (Value.int 0) = cs.map byt := by simp
/-- the String constants loaded since: only such texts -/
def LX (Ts : List String) (Li L : List LitE) : Prop := ∃ M, L = M ++ Li ∧ ∀ q ∈ M, q.2.2.1 ∈ Ts
theorem LX.refl (Ts : List String) (Li : List LitE) : LX Ts Li Li := ⟨[], rfl, fun _ h => nomatch h⟩
theorem LX.one {Ts : List String} {Li : List LitE} {q : LitE} (h : q.2.2.1 ∈ Ts) : LX Ts Li (q :: Li) := ⟨[q], rfl, fun r hr => by cases List.mem_singleton.mp hr; exact h⟩
theorem LX.trans {Ts : List String} {Li L L' : List LitE} (a : LX Ts Li L) (b : LX Ts L L') : LX Ts Li L' := by
  obtain ⟨M, rfl, h⟩ := a; obtain ⟨N, rfl, g⟩ := b
  exact ⟨N ++ M, by simp, fun q hq => (List.mem_append.mp hq).elim (g q) (h q)⟩
theorem LX.mono {Ts Ts' : List String} {Li L : List LitE} (a : LX Ts Li L) (h : ∀ t ∈ Ts, t ∈ Ts') : LX Ts' Li L := by
  obtain ⟨M, rfl, g⟩ := a; exact ⟨M, rfl, fun q hq => h _ (g q hq)⟩
theorem LX.mem {Ts : List String} {Li L : List LitE} (a : LX Ts Li L) {q : LitE} (h : q ∈ Li) : q ∈ L := by obtain ⟨M, rfl, -⟩ := a; exact List.mem_append_right _ h
theorem LX.lit {Ts : List String} {Li L : List LitE} {As As' : List Ent} {own text : String} {idx : Nat} {vs : List Value} (a : LX Ts Li L) (s : Sub As As') (q : LitOk As Li own idx text vs) (ht : text ∉ Ts) : LitOk As' L own idx text vs := by
  rcases q with q | ⟨x, b, h1, h2, h3⟩
  · refine Or.inl fun h => ?_
    obtain ⟨M, rfl, g⟩ := a
    rw [List.map_append] at h
    rcases List.mem_append.mp h with h | h
    · obtain ⟨r, hr, e⟩ := List.mem_map.mp h
      exact ht (e ▸ g r hr)
    · exact q h
  · exact Or.inr ⟨x, b, a.mem h1, s _ h2, s _ h3⟩
/-- COMPACT_STRINGS is on -/
def CSt (G : Gx) : Prop := ∃ z : Int32, Sta G.Z G.Z.heap STR "COMPACT_STRINGS" "Z" (.int z) ∧ ¬ z = 0
/-- a String is made of chars: what the maker leaves -/
def NewS (G : Gx) (As : List Ent) (Li : List LitE) (o : Addr) (bs : List Value) (A : List Ent) (L : List LitE) : Prop :=
  StrIn G A o bs 0 ∧ Sub As A ∧ LitOk A L STR 7 "" [] ∧ LX [""] Li L
end Jvm.Own
namespace Jvm.Own
open Sem ClassFile Op Lib Bundle Jvm.Stand Jvm.Free Jvm.LawKit Jvm.RoadKit
theorem ref_nar {u : Value} {C : String} (h : u.isRef = true) : narrow (.object C) u = u := by rcases ref_cases h with rfl | ⟨_, rfl⟩ <;> rfl
theorem ref_fit {u : Value} {C : String} (h : u.isRef = true) : fits (.object C) u = true := by rcases ref_cases h with rfl | ⟨_, rfl⟩ <;> rfl
theorem ref_cat {u : Value} (h : u.isRef = true) : u.category = 1 := by rcases ref_cases h with rfl | ⟨_, rfl⟩ <;> rfl
theorem Is.cons {G : Gx} {As : List Ent} {a : Addr} {C : String} {e : Ent} (q : Is G As a C) : Is G (e :: As) a C := q.sub (Sub.cons (Sub.refl _))
end Jvm.Own
namespace Jvm.Own
open Sem ClassFile Op Lib Bundle Jvm.Stand Jvm.Free Jvm.LawKit Jvm.RoadKit
/-- 1 where the two lists are one, else 0 -/
def eqI (xs zs : List Int32) : Int32 := if xs = zs then 1 else 0
theorem eqI_len {xs zs : List Int32} (h : xs.length ≠ zs.length) : eqI xs zs = 0 := if_neg fun e => h (congrArg List.length e)
theorem eqI_at {xs zs : List Int32} {k : Nat} (h1 : k < xs.length) (h2 : k < zs.length) (h : xs[k] ≠ zs[k]) : eqI xs zs = 0 := if_neg fun e => h (by subst e; rfl)
theorem eqI_all {xs zs : List Int32} (hl : xs.length = zs.length) (h : ∀ k (h1 : k < xs.length) (h2 : k < zs.length), xs[k] = zs[k]) : eqI xs zs = 1 := if_pos (List.ext_getElem hl h)
theorem eqI_self (xs : List Int32) : eqI xs xs = 1 := if_pos rfl
theorem n_inj {a b : Nat} (ha : a < 2147483648) (hb : b < 2147483648) (h : a.toInt32 = b.toInt32) : a = b := by
  have := congrArg Int32.toInt h
  rw [n_toInt ha, n_toInt hb] at this
  omega
theorem eqI_nar (xs zs : List Int32) : narrow .boolean (.int (eqI xs zs)) = .int (eqI xs zs) := by unfold eqI; split <;> rfl
end Jvm.Own
namespace Jvm.Own
open Sem ClassFile Op Lib Bundle Jvm.Stand Jvm.Free Jvm.LawKit Jvm.RoadKit
theorem Fld.uniq {Z : State} {h : Heap} {a : Addr} {C n d : String} {v u : Value} (F : Fld Z h a C n d v) (H : Fld Z h a C n d u) : v = u := by
  by_cases q : v = u
  · exact q
  · exact absurd rfl (RoadKit.Fld.ne F H q)
theorem AV.uniq {Z : State} {h : Heap} {a : Addr} {w w' : Bool} {t t' : FieldType} {vs us : List Value} (A : AV Z h a w t vs) (B : AV Z h a w' t' us) : vs = us := by
  obtain ⟨c, A1, e1, -⟩ := A
  obtain ⟨c', B1, e2, -⟩ := B
  cases A1.1.symm.trans B1.1
  exact e1.symm.trans e2
theorem StrIn.uniq {G : Gx} {As : List Ent} {a : Addr} {vs us : List Value} {c c' : Int32} {h : Heap} (I : Inv G As h) (q : StrIn G As a vs c) (r : StrIn G As a us c') : vs = us := by
  obtain ⟨b, -, q2, -, q4⟩ := q
  obtain ⟨b', -, r2, -, r4⟩ := r
  obtain rfl := Value.ref.inj (Fld.uniq (q2.fld I) (r2.fld I))
  exact AV.uniq (q4.get I) (r4.get I)
theorem map_int_inj {xs zs : List Int32} (h : xs.map Value.int = zs.map Value.int) : xs = zs := by
  have := congrArg (List.map fun v => match v with | Value.int z => z | _ => 0) h
  simpa [List.map_map, Function.comp_def] using this
end Jvm.Own
namespace Jvm.Own
open Sem ClassFile Op Lib Bundle Jvm.Stand Jvm.Free Jvm.LawKit Jvm.RoadKit
/-- a class right below Object is no K -/
theorem not_sub {Z : State} {a0 : Array Value} {C O K : String} {n : Nat} (wC : (Cond.superclass C O).before a0 Z = true) (wO : (Cond.noSuperclass O).before a0 Z = true) (wK : (Cond.instantiable K n).before a0 Z = true) (hn : C ≠ K) (hO : O ≠ K) :
    ∃ c t, Z.vm.findClass C = some c ∧ Z.vm.findClass K = some t ∧ Z.vm.assignable c t = false := by
  obtain ⟨c, h0⟩ := found_sup wC
  obtain ⟨p, k, kp, h1, h2, h3, h4, h5, -, h7⟩ := Cond.superclass_spec h0 wC
  obtain ⟨o, ko, g1, g2, g3, -⟩ := Cond.noSuperclass_spec wO
  cases h1.symm.trans g1
  cases h3.symm.trans g2
  obtain ⟨t, kt, t1, t2, t3, t4, -⟩ := Cond.instantiable_spec wK
  have ne := ids_ne h0 t1 hn
  have ne' := ids_ne h1 t1 hO
  have ti : kt.isInterface = false := by simp at t4; exact t4.1
  have sub : ∀ fuel, Z.vm.isSubclassAux fuel c t = false := fun fuel => by
    cases fuel with
    | zero => rfl
    | succ f => cases f with
      | zero => simp [Vm.isSubclassAux, ne, h2, h4]
      | succ f => simp [Vm.isSubclassAux, ne, ne', h2, h3, h4, g3]
  refine ⟨c, t, h0, t1, ?_⟩
  show Z.vm.assignableAux (255 + 1) c t = false
  simp [Vm.assignableAux, ne, h2, t2, h5, t3, ti, Vm.isSubclass, sub]
end Jvm.Own
namespace Jvm.Own
open Sem ClassFile Op Lib Bundle Jvm.Stand Jvm.Free Jvm.LawKit Jvm.RoadKit
theorem shr0 (n : Int32) : n >>> (0 : Int32) = n := by
  apply Int32.toInt_inj.mp
  simp
end Jvm.Own
namespace Jvm.Own
open Sem ClassFile Op Lib Bundle Jvm.Stand Jvm.Free Jvm.LawKit Jvm.RoadKit
theorem n_add (a b : Nat) : a.toInt32 + b.toInt32 = (a + b).toInt32 := by
  show Int32.ofNat a + Int32.ofNat b = Int32.ofNat (a + b)
  rw [Int32.ofNat_add]
theorem n_sub {a b : Nat} (h : b ≤ a) : a.toInt32 - b.toInt32 = (a - b).toInt32 := by
  have e : (a - b).toInt32 + b.toInt32 = a.toInt32 := by rw [n_add]; congr 1; omega
  rw [← e, Int32.add_sub_cancel]
end Jvm.Own
namespace Jvm.Own
open Sem ClassFile Op Lib Bundle Jvm.Stand Jvm.Free Jvm.LawKit Jvm.RoadKit
theorem args_ls {args : List Value} {Ls : List Slot} {n : Nat} (h : Sym.laidSlots args ++ List.replicate (n - (Sym.laidSlots args).length) .unset = Ls) : argsToLocals args.toArray n = Ls.toArray := by
  apply Array.toList_inj.mp
  rw [Sym.argsToLocals_toList]
  exact h
end Jvm.Own
namespace Jvm.Own
open Sem ClassFile Op Lib Bundle Jvm.Stand Jvm.Free Jvm.LawKit Jvm.RoadKit
/-! ### a cell that the walk won't write again -/
def Frz (As : List Ent) (a : Addr) (sc : SC) (As' : List Ent) : Prop := ∃ pre post, As = pre ++ (a, true, sc) :: post ∧ As' = pre ++ (a, false, sc) :: post
section Frzs
variable {G : Gx} {As As' As'' : List Ent} {a b x : Addr} {w : Bool} {sc sc' : SC} {e : Ent} {h : Heap} {C O n d : String} {fs : List Fd} {vs us : List Value} {t : FieldType}
theorem Frz.head : Frz ((a, true, sc) :: As) a sc ((a, false, sc) :: As) := ⟨[], As, rfl, rfl⟩
theorem Frz.tail (u : Frz As a sc As') : Frz (e :: As) a sc (e :: As') := by obtain ⟨pre, post, rfl, rfl⟩ := u; exact ⟨e :: pre, post, rfl, rfl⟩
theorem Frz.of_mem (hm : (a, true, sc) ∈ As) : ∃ As', Frz As a sc As' := by obtain ⟨pre, post, rfl⟩ := List.append_of_mem hm; exact ⟨_, pre, post, rfl, rfl⟩
theorem Frz.new (u : Frz As a sc As') : (a, false, sc) ∈ As' := by obtain ⟨pre, post, rfl, rfl⟩ := u; simp
theorem Frz.other (u : Frz As a sc As') (he : e ∈ As) (hne : e ≠ (a, true, sc)) : e ∈ As' := by
  obtain ⟨pre, post, rfl, rfl⟩ := u
  rcases List.mem_append.mp he with he | he
  · exact List.mem_append_left _ he
  · rcases List.mem_cons.mp he with rfl | he
    · exact absurd rfl hne
    · exact List.mem_append_right _ (List.mem_cons_of_mem _ he)
theorem Des.frz {Z : State} {a0 : Array Value} (D : Des Z a0 h a true sc) : Des Z a0 h a false sc := by
  rcases sc with ⟨C, fs, vs⟩ | ⟨t, vs⟩
  · exact ⟨D.1, D.2.1, D.2.2.1, fun q => nomatch q⟩
  · obtain ⟨c, A, r1, r2, r3, -⟩ := D
    exact ⟨c, A, r1, r2, r3, fun q => nomatch q⟩
theorem Inv.frz (I : Inv G As h) (u : Frz As a sc As') : Inv G As' h := by
  obtain ⟨pre, post, rfl, rfl⟩ := u
  refine ⟨I.1, ?_, fun e he => ?_⟩
  · have sp := I.2.1
    simp only [Sep, List.map_append, List.map_cons, List.pairwise_append, List.pairwise_cons] at sp ⊢
    refine ⟨sp.1, ⟨fun p hp q => sp.2.1.1 p hp (by simp), sp.2.1.2⟩, fun p hp q hq r => ?_⟩
    rcases List.mem_cons.mp hq with rfl | hq
    · exact sp.2.2 p hp (a, true) (List.mem_cons_self ..) (by simp)
    · exact sp.2.2 p hp q (List.mem_cons_of_mem _ hq) r
  · rcases List.mem_append.mp he with he | he
    · exact I.2.2 e (List.mem_append_left _ he)
    · rcases List.mem_cons.mp he with rfl | he
      · exact ⟨(fun q => nomatch q), (I.2.2 (a, true, sc) (List.mem_append_right _ (List.mem_cons_self ..))).2.frz⟩
      · exact I.2.2 e (List.mem_append_right _ (List.mem_cons_of_mem _ he))
/-- a String that won't be written again: its signs -/
def StrF (As : List Ent) (a : Addr) (bs : List Value) : Prop :=
  ∃ b fs vs, (a, false, obj STR fs vs) ∈ As ∧ FAt fs vs STR "value" "[B" (.ref b) ∧ FAt fs vs STR "coder" "B" (.int 0) ∧ (b, false, arr .byte bs) ∈ As
theorem StrF.str (q : StrF As a vs) : StrIn G As a vs 0 := by
  obtain ⟨b, fs, us, h1, h2, h3, h4⟩ := q; exact ⟨b, Is.mem h1, FIn.mem h1 h2, FIn.mem h1 h3, AVin.mem h4⟩
theorem StrF.is (q : StrF As a vs) : Is G As a STR := by obtain ⟨b, fs, us, h1, h2, h3, h4⟩ := q; exact Is.mem h1
theorem StrF.sub (q : StrF As a vs) (s : Sub As As') : StrF As' a vs := by
  obtain ⟨b, fs, us, h1, h2, h3, h4⟩ := q; exact ⟨b, fs, us, s _ h1, h2, h3, s _ h4⟩
theorem StrF.upd (q : StrF As a vs) (u : Upd As x sc sc' As') : StrF As' a vs := by
  obtain ⟨b, fs, us, h1, h2, h3, h4⟩ := q; exact ⟨b, fs, us, u.other h1 (fun r => by simp at r), h2, h3, u.other h4 (fun r => by simp at r)⟩
theorem StrF.frz (q : StrF As a vs) (u : Frz As x sc As') : StrF As' a vs := by
  obtain ⟨b, fs, us, h1, h2, h3, h4⟩ := q; exact ⟨b, fs, us, u.other h1 (fun r => by simp at r), h2, h3, u.other h4 (fun r => by simp at r)⟩
theorem StrF.lit (h2 : (a, false, obj STR litF [.ref b, .int 0]) ∈ As) (h3 : (b, false, arr .byte vs) ∈ As) : StrF As a vs := ⟨b, _, _, h2, FAt.head, FAt.tail FAt.head, h3⟩
/-- what is not written any more stays -/
def Stay (As As' : List Ent) : Prop := ∀ e ∈ As, e.2.1 = false → e ∈ As'
theorem Stay.refl (As : List Ent) : Stay As As := fun _ h _ => h
theorem Stay.trans (p : Stay As As') (q : Stay As' As'') : Stay As As'' := fun e h w => q e (p e h w) w
theorem Sub.stay (p : Sub As As') : Stay As As' := fun e h _ => p e h
theorem Upd.stay (u : Upd As a sc sc' As') : Stay As As' := fun e h w => u.other h (fun q => by subst q; cases w)
theorem Frz.stay (u : Frz As a sc As') : Stay As As' := fun e h w => u.other h (fun q => by subst q; cases w)
theorem StrF.stay (q : StrF As a vs) (s : Stay As As') : StrF As' a vs := by
  obtain ⟨b, fs, us, h1, h2, h3, h4⟩ := q; exact ⟨b, fs, us, s _ h1 rfl, h2, h3, s _ h4 rfl⟩
theorem LitOk.stay {Li : List LitE} {own text : String} {idx : Nat} (q : LitOk As Li own idx text vs) (s : Stay As As') : LitOk As' Li own idx text vs :=
  q.imp id fun ⟨a, b, h1, h2, h3⟩ => ⟨a, b, h1, s _ h2 rfl, s _ h3 rfl⟩
/-- all but two cells stay -/
def Kp2 (As : List Ent) (x y : Ent) (As' : List Ent) : Prop := ∀ e ∈ As, e ≠ x → e ≠ y → e ∈ As'
theorem Kp2.stay {x y : Ent} (q : Kp2 As x y As') (hx : x.2.1 = true) (hy : y.2.1 = true) : Stay As As' := fun e h w => q e h (fun r => by subst r; rw [hx] at w; cases w) (fun r => by subst r; rw [hy] at w; cases w)
end Frzs
section Laws
variable {G : Gx} {K : Kx} {y : MethodName} {code : ByteArray} {ret : Option FieldType} {R : Room} {Q : Qx} {As As' : List Ent} {Li Li' : List LitE} {cells slots pc pc' : Nat} {Ls Ls' : List Slot} {st st' : List Value} {idx : Nat} {a b : Addr} {C O n d R0 host : String} {v : Value} {sc : SC} {t : FieldType} {vs us us' : List Value}
theorem W.frz (u : Frz As a sc As') (nx : W G K y code ret R Q As' Li cells slots pc Ls st) : W G K y code ret R Q As Li cells slots pc Ls st :=
  fun T vm0 k0 locs ok X hS hk hN hI hL hF => nx T vm0 k0 locs ok X hS hk hN (hI.frz u) hL hF
theorem AV.arv {Z : State} {h : Heap} {w : Bool} (A : AV Z h a w t vs) : ∃ k, Arv Z h a k t vs.length.toInt32 vs .null := by
  obtain ⟨c, A, e1, e2, e3, -⟩ := A
  have hs : c.slots.size = vs.length := by rw [← e1]; simp
  refine ⟨c.cls, c, A, rfl, by rw [n_clamp e2, hs], n_nn e2, fun k hk => ?_, fun i hi => ?_⟩
  · have hk' : k < vs.length := by rw [← hs]; exact hk
    rw [List.getD_eq_getElem?_getD, List.getElem?_eq_getElem hk', Option.getD_some, ← Array.getElem?_toList, e1, List.getElem?_eq_getElem hk']
  · have hi' : i < vs.length := by rw [← hs]; exact hi
    rw [List.getD_eq_getElem?_getD, List.getElem?_eq_getElem hi', Option.getD_some]
    exact e3 _ (List.getElem_mem hi')
theorem AV.of_arv {Z : State} {h : Heap} {w : Bool} {k : ClassId} {z : Int32} {dv : Value} (A : Arv Z h a k t z vs dv) (hz : z.toNatClampNeg = vs.length) (h31 : vs.length < 2147483648) (rk : refKind t = false) : AV Z h a w t vs := by
  obtain ⟨c, A, -, e2, -, e4, e5⟩ := A
  have hs : c.slots.size = vs.length := e2.trans hz
  refine ⟨c, A, List.ext_getElem? fun i => ?_, h31, fun v hv => ?_, fun _ C e => by subst e; cases rk⟩
  · by_cases hi : i < vs.length
    · have := e4 i (by omega)
      rw [List.getD_eq_getElem?_getD, List.getElem?_eq_getElem hi, Option.getD_some] at this
      rw [Array.getElem?_toList, this, List.getElem?_eq_getElem hi]
    · rw [List.getElem?_eq_none (by rw [Array.length_toList]; omega), List.getElem?_eq_none (by omega)]
  · obtain ⟨i, hi, rfl⟩ := List.getElem_of_mem hv
    have := e5 i (by omega)
    rwa [List.getD_eq_getElem?_getD, List.getElem?_eq_getElem hi, Option.getD_some] at this
theorem nfw : nativeFrameWords "java/lang/System" "arraycopy" 5 = 7 := by decide +kernel
/-- System.arraycopy of an array of primitives into one of the walk's own -/
theorem W.acopy {sp dp nn : Int32} {i j n : Nat} (hd : decode code pc = .ok (.invokestatic idx, 3)) (w1 : (Cond.methodLink y.cls idx Jvm.Stand.acN).before G.a0 G.Z = true) (w2 : (Cond.native Jvm.Stand.acN).before G.a0 G.Z = true) (w3 : (Cond.static Jvm.Stand.acN).before G.a0 G.Z = true) (w4 : (Cond.initialized "java/lang/System").before G.a0 G.Z = true)
    (hs : AVin G As a t vs) (rk : refKind t = false) (h1 : ¬ sp < 0) (h2 : ¬ dp < 0) (h3 : ¬ nn < 0) (hi : sp.toNatClampNeg = i) (hj : dp.toNatClampNeg = j) (hn : nn.toNatClampNeg = n) (l1 : i + n ≤ vs.length) (l2 : j + n ≤ us.length)
    (hv : us.take j ++ (vs.drop i).take n ++ us.drop (j + n) = us') (up : Upd As b (arr t us) (arr t us') As') (hf : 1 ≤ R.frames) (hl : wt st + 18 ≤ R.locals)
    (nx : W G K y code ret R Q As' Li cells slots (pc + 3) Ls st) : W G K y code ret R Q As Li cells slots pc Ls (.int nn :: .int dp :: .ref b :: .int sp :: .ref a :: st) := by
  intro T vm0 k0 locs ok X hS hk hN hI hL hF
  have hm := up.mem
  have AB : AV G.Z T.heap b true t us := hI.av hm
  have AA := hs.get hI
  obtain ⟨wa, AA⟩ : ∃ w, AV G.Z T.heap a w t vs := ⟨_, AA⟩
  obtain ⟨ka, A1⟩ := AA.arv
  obtain ⟨kb, B1⟩ := AB.arv
  have a31 : vs.length < 2147483648 := by obtain ⟨_, _, _, q, _⟩ := AA; exact q
  have b31 : us.length < 2147483648 := by obtain ⟨_, _, _, q, _⟩ := AB; exact q
  subst hi; subst hj; subst hn
  obtain ⟨T', h', L, X', e', F', Kp, B2, st'⟩ := cpA X ok.1 (ok_Z ok hS) (ok_own ok hS) w1 w2 w3 w4 rfl A1 B1 (Or.inl ⟨rfl, rk⟩) h1 h2 h3 (by rw [n_clamp a31]; exact l1) (by rw [n_clamp b31]; exact l2) rfl l2 hF ((hI.2.2 _ hm).1 rfl)
    (g := mkF K.m pc Ls.toArray (.int nn :: .int dp :: .ref b :: .int sp :: .ref a :: st)) rfl (by rw [ok.2.2.1]; simp) rfl (hb ok.2.1 hd) hf (wt_le st) (by rw [nfw]; exact hl)
  have eu : ((List.range nn.toNatClampNeg).map fun i => vs.getD (sp.toNatClampNeg + i) Value.null) = (vs.drop sp.toNatClampNeg).take nn.toNatClampNeg := by
    refine List.ext_getElem (by simp; omega) fun i q1 q2 => ?_
    have q : sp.toNatClampNeg + i < vs.length := by simp at q1; omega
    simp [List.getD_eq_getElem?_getD, List.getElem?_eq_getElem q]
  rw [eu, hv] at B2
  have ul : us'.length = us.length := by rw [← hv]; simp; omega
  have D : Des G.Z G.a0 h' b true (arr t us') := AV.of_arv B2 (by rw [n_clamp b31, ul]) (by rw [ul]; exact b31) rk
  obtain ⟨U, u', g1, g2⟩ := nx T' vm0 k0 L ok X' hS (by rw [e']; exact Nat.le_trans hk Kp.1) hN (by rw [e']; exact hI.upd up (fun x hx c q => Kp.2.1 x c q (by simpa using hx)) Kp.1 D) hL F'
  exact ⟨U, u', st' _ g1, g2⟩
end Laws
end Jvm.Own
namespace Jvm.Own
open Sem ClassFile Op Lib Bundle Jvm.Stand Jvm.Free Jvm.LawKit Jvm.RoadKit
/-- the lookup from a class that declares the method finds it: no word of its own is needed where a class selects another of its methods -/
theorem same_of {Z : State} {a0 : Array Value} {C : String} {z z' : MethodName} (wi : (Cond.instanceMethod z).before a0 Z = true) (ws : (Cond.selects C z' z').before a0 Z = true) (hc : z'.cls = z.cls) (hy : z.cls ≠ "java/lang/invoke/MethodHandle" ∧ z.cls ≠ "java/lang/invoke/VarHandle") :
    (Cond.sameMethod z.cls z.cls z.name z.desc).before a0 Z = true := by
  obtain ⟨mk, meth, hn, -⟩ := Cond.instanceMethod_spec wi
  have hf := State.methodFound?_of_named hn hy
  have hcl := findClass_of_methodNamed hn
  obtain ⟨c2, r2, m2, q1, q2, q3, q4, kP, hkP, hkPi⟩ := Cond.selects_spec ws
  have hcl' := findClass_of_methodNamed q3
  rw [hc] at hcl'
  have e : mk.cls = m2.cls := by
    first | exact Option.some.inj (hcl.symm.trans hcl') | (exact (Option.some.inj (hcl.symm.trans hcl')))
  have hkP' : Z.vm.classes[mk.cls]? = some kP := by rw [e]; exact hkP
  have hn' : Z.methodNamed? ⟨z.cls, z.name, z.desc⟩ = some mk := hn
  simp [Cond.before, Cond.holds, Cond.value, hcl, hf, hn', hkP', hkPi]
end Jvm.Own
namespace Jvm.Own
open Sem ClassFile Op Lib Bundle Jvm.Stand Jvm.Free Jvm.LawKit Jvm.RoadKit
/-! ### a builder's bytes -/
def pad (xs : List Int32) (cap : Nat) : List Value := xs.map Value.int ++ List.replicate (cap - xs.length) (.int 0)
def grow (cap need : Nat) : Nat := if need ≤ cap then cap else cap + max (need - cap) (cap + 2)
section
variable {xs ys : List Int32} {cap cap' need a b : Nat}
theorem pad_len (h : xs.length ≤ cap) : (pad xs cap).length = cap := by simp [pad]; omega
theorem pad_nil (cap : Nat) : pad [] cap = List.replicate cap (.int 0) := by simp [pad]
theorem pad_grow (h : xs.length ≤ cap) (h2 : cap ≤ cap') : pad xs cap ++ List.replicate (cap' - cap) (.int 0) = pad xs cap' := by
  rw [pad, pad, List.append_assoc, List.replicate_append_replicate]; congr 2; omega
theorem pad_take (xs : List Int32) (cap : Nat) : (pad xs cap).take xs.length = xs.map Value.int := by
  rw [pad, List.take_left' (by simp)]
theorem pad_put (h : xs.length + ys.length ≤ cap) : (pad xs cap).take xs.length ++ ys.map Value.int ++ (pad xs cap).drop (xs.length + ys.length) = pad (xs ++ ys) cap := by
  rw [pad_take, pad, pad, List.drop_append, List.drop_eq_nil_of_le (by simp), List.nil_append, List.drop_replicate, List.map_append]
  congr 2
  simp; omega
theorem grow_le (h : need ≤ cap) : grow cap need = cap := if_pos h
theorem grow_ge : need ≤ grow cap need := by unfold grow; split <;> omega
theorem grow_mono : cap ≤ grow cap need := by unfold grow; split <;> omega
theorem grow_gt (h : ¬ need ≤ cap) : grow cap need = cap + max (need - cap) (cap + 2) := if_neg h
theorem n_lt_iff (ha : a < 2147483648) (hb : b < 2147483648) : a.toInt32 < b.toInt32 ↔ a < b := ⟨fun h => Nat.lt_of_not_le fun q => n_nlt q ha h, fun h => n_lt h hb⟩
theorem n_pos (h : 0 < a) (ha : a < 2147483648) : (0 : Int32) < a.toInt32 := n_lt (a := 0) h ha
theorem n_subnp (h : a ≤ b) (hb : b < 2147483648) : ¬ (0 : Int32) < a.toInt32 - b.toInt32 := by
  have e : a.toInt32 - b.toInt32 = -((b - a).toInt32) := by rw [← n_sub h, Int32.neg_sub]
  rw [e, Int32.lt_iff_toInt_lt]
  have h1 := n_toInt (a := b - a) (by omega)
  have h0 : (0 : Int32).toInt = 0 := rfl
  rw [Int32.toInt_neg, h1, h0]
  have : (-((b - a : Nat) : Int)).bmod (2 ^ 32) = -((b - a : Nat) : Int) := Int.bmod_eq_of_le (by omega) (by omega)
  omega
theorem n_ne (h : a ≠ b) (ha : a < 2147483648) (hb : b < 2147483648) : ¬ a.toInt32 = b.toInt32 := fun q => h (n_inj ha hb q)
theorem n_max (ha : a < 2147483648) (hb : b < 2147483648) : (h : a.toInt32 < b.toInt32) → max a b = b := fun h => Nat.max_eq_right (Nat.le_of_lt ((n_lt_iff ha hb).mp h))
theorem n_max' (ha : a < 2147483648) (hb : b < 2147483648) : (h : ¬ a.toInt32 < b.toInt32) → max a b = a := fun h => Nat.max_eq_left (Nat.le_of_not_lt fun q => h ((n_lt_iff ha hb).mpr q))
theorem n_min (ha : a < 2147483648) (hb : b < 2147483648) : (h : b.toInt32 < a.toInt32) → min a b = b := fun h => Nat.min_eq_right (Nat.le_of_lt ((n_lt_iff hb ha).mp h))
theorem n_min' (ha : a < 2147483648) (hb : b < 2147483648) : (h : ¬ b.toInt32 < a.toInt32) → min a b = a := fun h => Nat.min_eq_left (Nat.le_of_not_lt fun q => h ((n_lt_iff hb ha).mpr q))
theorem shl0 (n : Int32) : n <<< ((0 : Int32) &&& 31) = n := by
  rw [show ((0 : Int32) &&& 31) = 0 from by decide]
  apply Int32.toBitVec_inj.mp
  simp
theorem shr0' (n : Int32) : n >>> ((0 : Int32) &&& 31) = n := by
  rw [show ((0 : Int32) &&& 31) = 0 from by decide]; exact shr0 n
end
end Jvm.Own
namespace Jvm.Own
open Sem ClassFile Op Lib Bundle Jvm.Stand Jvm.Free Jvm.LawKit Jvm.RoadKit
theorem decl_of {Z : State} {a0 : Array Value} {z : MethodName} {bytes : ByteArray} {mL : Nat} {ret : Option FieldType} (wi : (Cond.instanceMethod z).before a0 Z = true) (wc : (Cond.code z bytes mL ret).before a0 Z = true) : (Cond.declares z).before a0 Z = true := by
  obtain ⟨m, meth, hn, hm, hs, -⟩ := Cond.instanceMethod_spec wi
  obtain ⟨meth', c, hm', -, -, -, -, -, -, hsig⟩ := Cond.code_spec hn wc
  cases hm.symm.trans hm'
  simp [Cond.before, Cond.holds, Cond.value, hn, hm, hs, hsig]
end Jvm.Own
namespace Jvm.Own
open Sem ClassFile Op Lib Bundle Jvm.Stand Jvm.Free Jvm.LawKit Jvm.RoadKit
theorem nf_cls {G : Gx} {C : String} {x z' : MethodName} (ws : (Cond.selects C z' z').before G.a0 G.Z = true) (hc : z'.cls = x.cls) : ∀ s : State, G.Z.Warmed39 s.vm → NotFace s x := fun s hZ r0 h0 => by
  obtain ⟨c2, r2, m2, q1, q2, q3, q4, kP, hkP, hkPi⟩ := Cond.selects_spec (mvT (args := #[]) hZ ws)
  have e1 := findClass_of_methodNamed h0
  have e2 := findClass_of_methodNamed q3
  rw [hc] at e2
  have e : r0.cls = m2.cls := Option.some.inj (e1.symm.trans e2)
  exact ⟨kP, by rw [e]; exact hkP, hkPi⟩
end Jvm.Own
namespace Jvm.Own
open Sem ClassFile Op Lib Bundle Jvm.Stand Jvm.Free Jvm.LawKit Jvm.RoadKit
theorem LX.not {Ts : List String} {Li L : List LitE} {t : String} (a : LX Ts Li L) (h : t ∉ Li.map fun q => q.2.2.1) (ht : t ∉ Ts) : t ∉ L.map fun q => q.2.2.1 := by
  obtain ⟨M, rfl, g⟩ := a
  intro q
  rw [List.map_append] at q
  rcases List.mem_append.mp q with q | q
  · obtain ⟨r, hr, e⟩ := List.mem_map.mp q
    exact ht (e ▸ g r hr)
  · exact h q
theorem perm22 {α : Type} {a b c d : α} {l : List α} : (a :: b :: c :: d :: l).Perm (c :: d :: a :: b :: l) :=
  List.perm_append_comm_assoc [a, b] [c, d] l
/-- the signs of a text, as a builder holds them -/
def txb (s : String) : List Int32 := s.toList.map fun c => Jvm.Lit.byteI c.toNat.toUInt16
theorem txb_map (s : String) : (s.toList.map fun c => Value.int (Jvm.Lit.byteI c.toNat.toUInt16)) = (txb s).map Value.int := by simp [txb, List.map_map, Function.comp_def]
theorem txb_len (s : String) : (txb s).length = s.toList.length := by simp [txb]
end Jvm.Own
namespace Jvm.Own
open Sem ClassFile Op Lib Bundle Jvm.Stand Jvm.Free Jvm.LawKit Jvm.RoadKit
section
variable {As R : List Ent} {x y e : Ent} {a : Addr} {vs : List Value}
theorem two_front (hx : x ∈ As) (hy : y ∈ As) (hne : y ≠ x) : ∃ R, As.Perm (x :: y :: R) := by
  obtain ⟨p, q, rfl⟩ := List.append_of_mem hx
  have hy' : y ∈ p ++ q := by
    rcases List.mem_append.mp hy with h | h
    · exact List.mem_append_left _ h
    · rcases List.mem_cons.mp h with h | h
      · exact absurd h hne
      · exact List.mem_append_right _ h
  obtain ⟨p', q', e⟩ := List.append_of_mem hy'
  refine ⟨p' ++ q', List.perm_middle.trans (List.Perm.cons _ ?_)⟩
  rw [e]
  exact List.perm_middle
theorem in_front (hp : As.Perm (x :: y :: R)) (hx : x.2.1 = true) (hy : y.2.1 = true) (he : e ∈ As) (hw : e.2.1 = false) : e ∈ R := by
  rcases List.mem_cons.mp (hp.mem_iff.mp he) with rfl | h
  · rw [hx] at hw; cases hw
  · rcases List.mem_cons.mp h with rfl | h
    · rw [hy] at hw; cases hw
    · exact h
theorem StrF.front (q : StrF As a vs) (hp : As.Perm (x :: y :: R)) (hx : x.2.1 = true) (hy : y.2.1 = true) : StrF R a vs := by
  obtain ⟨b, fs, us, h1, h2, h3, h4⟩ := q
  exact ⟨b, fs, us, in_front hp hx hy h1 rfl, h2, h3, in_front hp hx hy h4 rfl⟩
end
end Jvm.Own
namespace Jvm.Pilot.@@N@@
open Jvm Jvm.ClassFile Sem Op Lib Jvm.Free Jvm.Stand Jvm.LawKit Jvm.RoadKit Bundle Jvm.Pilot.@@N@@.Jvm.D
theorem d5_0 : decode jdk_52_method_21_code 0 = .ok (.iconst 0, 1) := by decide +kernel
theorem d5_1 : decode jdk_52_method_21_code 1 = .ok (.istore 5, 2) := by decide +kernel
theorem d5_3 : decode jdk_52_method_21_code 3 = .ok (.iload 5, 2) := by decide +kernel
theorem d5_5 : decode jdk_52_method_21_code 5 = .ok (.iload 4, 2) := by decide +kernel
theorem d5_7 : decode jdk_52_method_21_code 7 = .ok (.if_icmp .ge 37, 3) := by decide +kernel
theorem d5_44 : decode jdk_52_method_21_code 44 = .ok (.iload 4, 2) := by decide +kernel
theorem d5_46 : decode jdk_52_method_21_code 46 = .ok (.ireturn, 1) := by decide +kernel
theorem d5_10 : decode jdk_52_method_21_code 10 = .ok (.aload_n 0, 1) := by decide +kernel
theorem d5_11 : decode jdk_52_method_21_code 11 = .ok (.iload_n 1, 1) := by decide +kernel
theorem d5_12 : decode jdk_52_method_21_code 12 = .ok (.caload, 1) := by decide +kernel
theorem d5_13 : decode jdk_52_method_21_code 13 = .ok (.istore 6, 2) := by decide +kernel
theorem d5_15 : decode jdk_52_method_21_code 15 = .ok (.iload 6, 2) := by decide +kernel
theorem d5_17 : decode jdk_52_method_21_code 17 = .ok (.sipush 255, 3) := by decide +kernel
theorem d5_20 : decode jdk_52_method_21_code 20 = .ok (.if_icmp .le 6, 3) := by decide +kernel
theorem d5_26 : decode jdk_52_method_21_code 26 = .ok (.aload_n 2, 1) := by decide +kernel
theorem d5_27 : decode jdk_52_method_21_code 27 = .ok (.iload_n 3, 1) := by decide +kernel
theorem d5_28 : decode jdk_52_method_21_code 28 = .ok (.iload 6, 2) := by decide +kernel
theorem d5_30 : decode jdk_52_method_21_code 30 = .ok (.i2b, 1) := by decide +kernel
theorem d5_31 : decode jdk_52_method_21_code 31 = .ok (.bastore, 1) := by decide +kernel
theorem d5_32 : decode jdk_52_method_21_code 32 = .ok (.iinc 1 1, 3) := by decide +kernel
theorem d5_35 : decode jdk_52_method_21_code 35 = .ok (.iinc 3 1, 3) := by decide +kernel
theorem d5_38 : decode jdk_52_method_21_code 38 = .ok (.iinc 5 1, 3) := by decide +kernel
theorem d5_41 : decode jdk_52_method_21_code 41 = .ok (.goto (-38), 3) := by decide +kernel
theorem pn_5999480 : plainFor (⟨"java/lang/StringUTF16", "compress", "([CI[BII)I"⟩ : MethodName) = true := by first | exact plainFor_of_name (by first | (simp [plainName, overriddenIn]; done) | decide +kernel) | decide +kernel
set_option maxRecDepth 65536 in
set_option maxHeartbeats 4000000 in
theorem ct_cmp (G : Own.Gx) (hw : ∀ d ∈ tables_1, d.before G.a0 G.Z = true) {As : List Own.Ent} {Li : List Own.LitE} (c b : Addr) (cs : List Int32) (hlen : cs.length < 2147483648) (hch : ∀ z ∈ cs, ¬ (255 : Int32) < z) (hm : Own.AVin G As c .char (cs.map Value.int)) :
    Own.Ct G [] (⟨"java/lang/StringUTF16", "compress", "([CI[BII)I"⟩ : MethodName) jdk_52_method_21_code 7 (some .int) ({ frames := 0, cells := 0, slots := 0, locals := 0 } : Room) [.ref c, .int 0, .ref b, .int 0, .int cs.length.toInt32] ((b, true, Own.arr .byte (List.replicate cs.length (.int 0))) :: As) Li (fun v A L => v = some (.int cs.length.toInt32) ∧ A = (b, true, Own.arr .byte (cs.map Own.byt)) :: As ∧ L = Li) := by
  refine Own.Ct.intro pn_5999480 (Ls := [.val (.ref c), .val (.int 0), .val (.ref b), .val (.int 0), .val (.int cs.length.toInt32), .unset, .unset]) rfl rfl ?_
  intro K
  suffices loop : ∀ (m k : Nat) (o : Slot), k + m = cs.length → One o → Own.W G K (⟨"java/lang/StringUTF16", "compress", "([CI[BII)I"⟩ : MethodName) jdk_52_method_21_code (some .int) ({ frames := 0, cells := 0, slots := 0, locals := 0 } : Room) (fun v A L => v = some (.int cs.length.toInt32) ∧ A = (b, true, Own.arr .byte (cs.map Own.byt)) :: As ∧ L = Li) ((b, true, Own.arr .byte ((cs.take k).map Own.byt ++ List.replicate m (.int 0))) :: As) Li 0 0 3 [.val (.ref c), .val (.int k.toInt32), .val (.ref b), .val (.int k.toInt32), .val (.int cs.length.toInt32), .val (.int k.toInt32), o] [] by
    refine Own.W.iconst (pc := 0) (z := (0 : Int32)) d5_0 (by decide) ?_
    refine Own.W.istore (pc := 1) (Ls' := [_, _, _, _, _, _, _]) d5_1 rfl rfl ?_
    exact loop cs.length 0 .unset (by simp) One.u
  intro m
  induction m with
  | zero =>
    intro k o hk ho
    obtain rfl : k = cs.length := by omega
    refine Own.W.iload (pc := 3) d5_3 rfl ?_
    refine Own.W.iload (pc := 5) d5_5 rfl ?_
    refine Own.W.ic_ge (pc := 7) 44 d5_7 (by decide) (by decide) ?_ (fun h7 => absurd h7 (Own.n_nlt (Nat.le_refl _) hlen))
    intro h7
    refine Own.W.iload (pc := 44) d5_44 rfl ?_
    refine Own.W.iret (pc := 46) d5_46 rfl (by simp) (by first | rfl | decide) ?_ (Nat.le_of_ble_eq_true rfl) (Nat.le_of_ble_eq_true rfl)
    exact ⟨rfl, by rw [Own.own_done], rfl⟩
  | succ m ih =>
    intro k o hk ho
    have hkl : k < cs.length := by omega
    refine Own.W.iload (pc := 3) d5_3 rfl ?_
    refine Own.W.iload (pc := 5) d5_5 rfl ?_
    refine Own.W.ic_ge (pc := 7) 44 d5_7 (by decide) (by decide) (fun h7 => absurd h7 (fun q => q (Own.n_lt hkl hlen))) ?_
    intro h7
    refine Own.W.aloadN (pc := 10) d5_10 rfl rfl ?_
    refine Own.W.iloadN (pc := 11) d5_11 rfl ?_
    refine Own.W.caload (pc := 12) d5_12 (hm.sub (Own.Sub.cons (Own.Sub.refl _))) (Own.n_nn (by omega)) (v := .int cs[k]) (by rw [Own.n_clamp (by omega)]; simp [hkl]) ?_
    refine Own.W.istore (pc := 13) (Ls' := [_, _, _, _, _, _, _]) d5_13 (Own.store_one rfl ho rfl) rfl ?_
    refine Own.W.iload (pc := 15) d5_15 rfl ?_
    refine Own.W.sipush (pc := 17) (z := (255 : Int32)) d5_17 (by decide) ?_
    refine Own.W.ic_le (pc := 20) 26 d5_20 (by decide) (by decide) ?_ (fun h20 => absurd h20 (hch _ (List.getElem_mem _)))
    intro h20
    refine Own.W.aloadN (pc := 26) d5_26 rfl rfl ?_
    refine Own.W.iloadN (pc := 27) d5_27 rfl ?_
    refine Own.W.iload (pc := 28) d5_28 rfl ?_
    refine Own.W.i2b (pc := 30) d5_30 rfl ?_
    refine Own.W.bastore (pc := 31) d5_31 (Own.n_nn (by omega)) (Own.n_clamp (by omega)) (by simp; omega) (u := Own.byt cs[k]) (by simp [nar]) (Own.own_fill cs hkl hk) Own.Upd.head ?_
    refine Own.W.iinc (pc := 32) (z := (1 : Int32)) (Ls' := [_, _, _, _, _, _, _]) d5_32 rfl (by decide) rfl rfl ?_
    refine Own.W.iinc (pc := 35) (z := (1 : Int32)) (Ls' := [_, _, _, _, _, _, _]) d5_35 rfl (by decide) rfl rfl ?_
    refine Own.W.iinc (pc := 38) (z := (1 : Int32)) (Ls' := [_, _, _, _, _, _, _]) d5_38 rfl (by decide) rfl rfl ?_
    refine Own.W.goto (pc := 41) 3 d5_41 (by decide) (by decide) ?_
    have ih' := ih (k + 1) (.val (.int cs[k])) (by omega) (One.val rfl)
    rw [← Own.n_succ] at ih'
    exact ih'
theorem d4_0 : decode jdk_52_method_16_code 0 = .ok (.iload_n 2, 1) := by decide +kernel
theorem d4_1 : decode jdk_52_method_16_code 1 = .ok (.newarray .byte, 2) := by decide +kernel
theorem d4_3 : decode jdk_52_method_16_code 3 = .ok (.astore_n 3, 1) := by decide +kernel
theorem d4_4 : decode jdk_52_method_16_code 4 = .ok (.aload_n 0, 1) := by decide +kernel
theorem d4_5 : decode jdk_52_method_16_code 5 = .ok (.iload_n 1, 1) := by decide +kernel
theorem d4_6 : decode jdk_52_method_16_code 6 = .ok (.aload_n 3, 1) := by decide +kernel
theorem d4_7 : decode jdk_52_method_16_code 7 = .ok (.iconst 0, 1) := by decide +kernel
theorem d4_8 : decode jdk_52_method_16_code 8 = .ok (.iload_n 2, 1) := by decide +kernel
theorem d4_9 : decode jdk_52_method_16_code 9 = .ok (.invokestatic 115, 3) := by decide +kernel
theorem pd_79053557 : parseMethodDescriptor "([CI[BII)I" = some ⟨[(.array .char), .int, (.array .byte), .int, .int], some .int⟩ := by decide +kernel
theorem d4_12 : decode jdk_52_method_16_code 12 = .ok (.istore 4, 2) := by decide +kernel
theorem d4_14 : decode jdk_52_method_16_code 14 = .ok (.iload 4, 2) := by decide +kernel
theorem d4_16 : decode jdk_52_method_16_code 16 = .ok (.iload_n 2, 1) := by decide +kernel
theorem d4_17 : decode jdk_52_method_16_code 17 = .ok (.if_icmp .eq 40, 3) := by decide +kernel
theorem d4_57 : decode jdk_52_method_16_code 57 = .ok (.aload_n 3, 1) := by decide +kernel
theorem d4_58 : decode jdk_52_method_16_code 58 = .ok (.areturn, 1) := by decide +kernel
theorem pn_53398918 : plainFor (⟨"java/lang/StringUTF16", "compress", "([CII)[B"⟩ : MethodName) = true := by first | exact plainFor_of_name (by first | (simp [plainName, overriddenIn]; done) | decide +kernel) | decide +kernel
set_option maxRecDepth 65536 in
set_option maxHeartbeats 4000000 in
theorem ct_cmp2 (G : Own.Gx) (hw : ∀ d ∈ tables_1, d.before G.a0 G.Z = true) {As : List Own.Ent} {Li : List Own.LitE} (c : Addr) (cs : List Int32) (N : Nat) (hN : cs.length ≤ N) (hN4 : N ≤ 4000) (hch : ∀ z ∈ cs, ¬ (255 : Int32) < z) (hm : Own.AVin G As c .char (cs.map Value.int)) :
    Own.Ct G [] (⟨"java/lang/StringUTF16", "compress", "([CII)[B"⟩ : MethodName) jdk_52_method_16_code 6 (some (.array .byte)) ({ frames := 1, cells := 1, slots := N, locals := 18 } : Room) [.ref c, .int 0, .int cs.length.toInt32] As Li (fun v A L => ∃ b, v = some (.ref b) ∧ A = (b, true, Own.arr .byte (cs.map Own.byt)) :: As ∧ L = Li) := by
  refine Own.Ct.intro pn_53398918 (Ls := [.val (.ref c), .val (.int 0), .val (.int cs.length.toInt32), .unset, .unset, .unset]) rfl rfl ?_
  intro K
  refine Own.W.iloadN (pc := 0) d4_0 rfl ?_
  refine Own.W.newP (pc := 1) N (hw _ (List.mem_of_getElem? (i := 19) rfl)) d4_1 rfl (Own.n_nn (by omega)) (by rw [Own.n_clamp (by omega)]; exact hN) (by omega) (vs := (List.replicate cs.length (.int 0))) (by rw [Own.n_clamp (by omega)]; rfl) (Nat.le_of_ble_eq_true rfl) (by first | exact Nat.le_of_ble_eq_true rfl | (simp; done) | (simp; omega)) ?_
  intro o1
  refine Own.W.astoreN (pc := 3) (Ls' := [_, _, _, _, _, _]) d4_3 rfl rfl rfl ?_
  refine Own.W.aloadN (pc := 4) d4_4 rfl rfl ?_
  refine Own.W.iloadN (pc := 5) d4_5 rfl ?_
  refine Own.W.aloadN (pc := 6) d4_6 rfl rfl ?_
  refine Own.W.iconst (pc := 7) (z := (0 : Int32)) d4_7 (by decide) ?_
  refine Own.W.iloadN (pc := 8) d4_8 rfl ?_
  refine Own.W.callS (pc := 9) (ct_cmp G hw c o1 cs (by omega) hch hm) d4_9 (hw _ (List.mem_of_getElem? (i := 20) rfl)) (hw _ (List.mem_of_getElem? (i := 21) rfl)) (hw _ (List.mem_of_getElem? (i := 17) rfl)) (hw _ (List.mem_of_getElem? (i := 22) rfl)) (by decide) pd_79053557 rfl rfl (Nat.le_of_ble_eq_true rfl) (Nat.le_of_ble_eq_true rfl) (Nat.le_of_ble_eq_true rfl) (by first | exact Nat.le_of_ble_eq_true rfl | (simp; done) | (simp; omega)) ?_
  rintro _ _ _ ⟨rfl, rfl, rfl⟩
  refine Own.W.istore (pc := 12) (Ls' := [_, _, _, _, _, _]) d4_12 rfl rfl ?_
  refine Own.W.iload (pc := 14) d4_14 rfl ?_
  refine Own.W.iloadN (pc := 16) d4_16 rfl ?_
  refine Own.W.ic_eq (pc := 17) 57 d4_17 (by decide) (by decide) ?_ (fun h17 => absurd h17 (fun q => q rfl))
  intro h17
  refine Own.W.aloadN (pc := 57) d4_57 rfl rfl ?_
  refine Own.W.aret (pc := 58) d4_58 rfl rfl rfl ?_ (Nat.le_of_ble_eq_true rfl) (by first | exact Nat.le_of_ble_eq_true rfl | (simp; done) | (simp; omega))
  exact ⟨_, rfl, rfl, rfl⟩
theorem d6_0 : decode jdk_52_method_15_code 0 = .ok (.iload_n 1, 1) := by decide +kernel
theorem d6_1 : decode jdk_52_method_15_code 1 = .ok (.aload_n 0, 1) := by decide +kernel
theorem d6_2 : decode jdk_52_method_15_code 2 = .ok (.arraylength, 1) := by decide +kernel
theorem d6_3 : decode jdk_52_method_15_code 3 = .ok (.isub, 1) := by decide +kernel
theorem d6_4 : decode jdk_52_method_15_code 4 = .ok (.bipush 31, 2) := by decide +kernel
theorem d6_6 : decode jdk_52_method_15_code 6 = .ok (.iushr, 1) := by decide +kernel
theorem d6_7 : decode jdk_52_method_15_code 7 = .ok (.i2b, 1) := by decide +kernel
theorem d6_8 : decode jdk_52_method_15_code 8 = .ok (.ireturn, 1) := by decide +kernel
theorem pn_92531892 : plainFor (⟨"java/lang/StringUTF16", "coderFromArrayLen", "([BI)B"⟩ : MethodName) = true := by first | exact plainFor_of_name (by first | (simp [plainName, overriddenIn]; done) | decide +kernel) | decide +kernel
set_option maxRecDepth 65536 in
set_option maxHeartbeats 4000000 in
theorem ct_cod (G : Own.Gx) (hw : ∀ d ∈ tables_1, d.before G.a0 G.Z = true) {As : List Own.Ent} {Li : List Own.LitE} (b : Addr) (vs : List Value) (z : Int32) (hm : Own.AVin G As b .byte vs) (hz : vs.length.toInt32 = z) :
    Own.Ct G [] (⟨"java/lang/StringUTF16", "coderFromArrayLen", "([BI)B"⟩ : MethodName) jdk_52_method_15_code 2 (some .byte) ({ frames := 0, cells := 0, slots := 0, locals := 0 } : Room) [.ref b, .int z] As Li (fun v A L => v = some (.int 0) ∧ As = A ∧ Li = L) := by
  refine Own.Ct.intro pn_92531892 (Ls := [.val (.ref b), .val (.int z)]) rfl rfl ?_
  intro K
  refine Own.W.iloadN (pc := 0) d6_0 rfl ?_
  refine Own.W.aloadN (pc := 1) d6_1 rfl rfl ?_
  refine Own.W.alen (pc := 2) d6_2 hm hz ?_
  refine Own.W.isub (pc := 3) d6_3 (Int32.sub_self _) ?_
  refine Own.W.bipush (pc := 4) (z := (31 : Int32)) d6_4 (by decide) ?_
  refine Own.W.iushr (pc := 6) d6_6 (z := (0 : Int32)) (by decide) ?_
  refine Own.W.i2b (pc := 7) d6_7 (z := (0 : Int32)) (by decide) ?_
  refine Own.W.iret (pc := 8) d6_8 rfl (by simp) (by first | rfl | decide) ?_ (Nat.le_of_ble_eq_true rfl) (Nat.le_of_ble_eq_true rfl)
  exact ⟨rfl, rfl, rfl⟩
def F_java_lang_String : List Own.Fd := [("java/lang/String", "coder", "B"), ("java/lang/String", "value", "[B")]
theorem LF_java_lang_String (G : Own.Gx) (hw : ∀ d ∈ tables_1, d.before G.a0 G.Z = true) : Own.LaidAll G.Z G.a0 "java/lang/String" F_java_lang_String := ⟨by decide, Own.LaidAll.cons (Or.inr (hw _ (List.mem_of_getElem? (i := 27) rfl))) (t := .byte) (by decide) (Own.LaidAll.cons (Or.inr (hw _ (List.mem_of_getElem? (i := 29) rfl))) (t := (.array .byte)) (by decide) (Own.LaidAll.nil))⟩
theorem d2_0 : decode jdk_42_method_149_code 0 = .ok (.aload_n 0, 1) := by decide +kernel
theorem d2_1 : decode jdk_42_method_149_code 1 = .ok (.invokespecial 1, 3) := by decide +kernel
theorem d2_4 : decode jdk_42_method_149_code 4 = .ok (.iload_n 3, 1) := by decide +kernel
theorem d2_5 : decode jdk_42_method_149_code 5 = .ok (.ifCond .ne 22, 3) := by decide +kernel
theorem d2_27 : decode jdk_42_method_149_code 27 = .ok (.getstatic 38, 3) := by decide +kernel
theorem d2_30 : decode jdk_42_method_149_code 30 = .ok (.ifCond .eq 28, 3) := by decide +kernel
theorem d2_33 : decode jdk_42_method_149_code 33 = .ok (.aload_n 1, 1) := by decide +kernel
theorem d2_34 : decode jdk_42_method_149_code 34 = .ok (.iload_n 2, 1) := by decide +kernel
theorem d2_35 : decode jdk_42_method_149_code 35 = .ok (.iload_n 3, 1) := by decide +kernel
theorem d2_36 : decode jdk_42_method_149_code 36 = .ok (.invokestatic 177, 3) := by decide +kernel
theorem pd_86865603 : parseMethodDescriptor "([CII)[B" = some ⟨[(.array .char), .int, .int], some (.array .byte)⟩ := by decide +kernel
theorem d2_39 : decode jdk_42_method_149_code 39 = .ok (.astore 5, 2) := by decide +kernel
theorem d2_41 : decode jdk_42_method_149_code 41 = .ok (.aload_n 0, 1) := by decide +kernel
theorem d2_42 : decode jdk_42_method_149_code 42 = .ok (.aload 5, 2) := by decide +kernel
theorem d2_44 : decode jdk_42_method_149_code 44 = .ok (.iload_n 3, 1) := by decide +kernel
theorem d2_45 : decode jdk_42_method_149_code 45 = .ok (.invokestatic 47, 3) := by decide +kernel
theorem pd_7843550 : parseMethodDescriptor "([BI)B" = some ⟨[(.array .byte), .int], some .byte⟩ := by decide +kernel
theorem d2_48 : decode jdk_42_method_149_code 48 = .ok (.putfield 15, 3) := by decide +kernel
theorem d2_51 : decode jdk_42_method_149_code 51 = .ok (.aload_n 0, 1) := by decide +kernel
theorem d2_52 : decode jdk_42_method_149_code 52 = .ok (.aload 5, 2) := by decide +kernel
theorem d2_54 : decode jdk_42_method_149_code 54 = .ok (.putfield 9, 3) := by decide +kernel
theorem d2_57 : decode jdk_42_method_149_code 57 = .ok (.return_, 1) := by decide +kernel
theorem pn_33051558 : plainFor (⟨"java/lang/String", "<init>", "([CIILjava/lang/Void;)V"⟩ : MethodName) = true := by first | exact plainFor_of_name (by first | (simp [plainName, overriddenIn]; done) | decide +kernel) | decide +kernel
set_option maxRecDepth 65536 in
set_option maxHeartbeats 4000000 in
theorem ct_void (G : Own.Gx) (hw : ∀ d ∈ tables_1, d.before G.a0 G.Z = true) (hC : Own.CSt G) {As : List Own.Ent} {Li : List Own.LitE} (s c : Addr) (cs : List Int32) (N : Nat) (hpos : 0 < cs.length) (hN : cs.length ≤ N) (hN4 : N ≤ 4000) (hch : ∀ z ∈ cs, ¬ (255 : Int32) < z) (hm : Own.AVin G As c .char (cs.map Value.int)) :
    Own.Ct G [] (⟨"java/lang/String", "<init>", "([CIILjava/lang/Void;)V"⟩ : MethodName) jdk_42_method_149_code 6 none ({ frames := 2, cells := 1, slots := N, locals := 35 } : Room) [.ref s, .ref c, .int 0, .int cs.length.toInt32, .null] ((s, true, Own.obj "java/lang/String" F_java_lang_String [.int 0, .null]) :: As) Li (fun v A L => ∃ b, v = none ∧ A = (b, true, Own.arr .byte (cs.map Own.byt)) :: (s, true, Own.obj "java/lang/String" F_java_lang_String [.int 0, .ref b]) :: As ∧ L = Li) := by
  refine Own.Ct.intro pn_33051558 (Ls := [.val (.ref s), .val (.ref c), .val (.int 0), .val (.int cs.length.toInt32), .val (.null), .unset]) rfl rfl ?_
  intro K
  obtain ⟨cz, hC1, hC2⟩ := hC
  refine Own.W.aloadN (pc := 0) d2_0 rfl rfl ?_
  refine Own.W.callO (pc := 1) d2_1 (hw _ (List.mem_of_getElem? (i := 11) rfl)) (hw _ (List.mem_of_getElem? (i := 12) rfl)) (hw _ (List.mem_of_getElem? (i := 13) rfl)) (Nat.le_of_ble_eq_true rfl) (Nat.le_of_ble_eq_true rfl) ?_
  refine Own.W.iloadN (pc := 4) d2_4 rfl ?_
  refine Own.W.if_ne (pc := 5) 27 d2_5 (by decide) (by decide) ?_ (fun h5 => absurd h5 (Own.n_ne0 hpos (by omega)))
  intro h5
  refine Own.W.getS (pc := 27) (host := "") (Or.inl (hw _ (List.mem_of_getElem? (i := 14) rfl))) (Via.refl (O := "java/lang/String")) d2_27 hC1 ?_
  refine Own.W.if_eq (pc := 30) 58 d2_30 (by decide) (by decide) (fun h30 => absurd h30 hC2) ?_
  intro h30
  refine Own.W.aloadN (pc := 33) d2_33 rfl rfl ?_
  refine Own.W.iloadN (pc := 34) d2_34 rfl ?_
  refine Own.W.iloadN (pc := 35) d2_35 rfl ?_
  refine Own.W.callS (pc := 36) (ct_cmp2 G hw c cs N hN hN4 hch (hm.sub (Own.Sub.cons (Own.Sub.refl _)))) d2_36 (hw _ (List.mem_of_getElem? (i := 15) rfl)) (hw _ (List.mem_of_getElem? (i := 16) rfl)) (hw _ (List.mem_of_getElem? (i := 17) rfl)) (hw _ (List.mem_of_getElem? (i := 18) rfl)) (by decide) pd_86865603 rfl rfl (Nat.le_of_ble_eq_true rfl) (Nat.le_of_ble_eq_true rfl) (Nat.le_of_ble_eq_true rfl) (by first | exact Nat.le_of_ble_eq_true rfl | (simp; done) | (simp; omega)) ?_
  rintro _ _ _ ⟨b, rfl, rfl, rfl⟩
  refine Own.W.astore (pc := 39) (Ls' := [_, _, _, _, _, _]) d2_39 rfl rfl rfl ?_
  refine Own.W.aloadN (pc := 41) d2_41 rfl rfl ?_
  refine Own.W.aload (pc := 42) d2_42 rfl rfl ?_
  refine Own.W.iloadN (pc := 44) d2_44 rfl ?_
  refine Own.W.callS (pc := 45) (ct_cod G hw b _ _ (Own.AVin.mem (List.Mem.head _)) (by simp)) d2_45 (hw _ (List.mem_of_getElem? (i := 23) rfl)) (hw _ (List.mem_of_getElem? (i := 24) rfl)) (hw _ (List.mem_of_getElem? (i := 17) rfl)) (hw _ (List.mem_of_getElem? (i := 25) rfl)) (by decide) pd_7843550 rfl rfl (Nat.le_of_ble_eq_true rfl) (Nat.le_of_ble_eq_true rfl) (Nat.le_of_ble_eq_true rfl) (by first | exact Nat.le_of_ble_eq_true rfl | (simp; done) | (simp; omega)) ?_
  rintro _ _ _ ⟨rfl, rfl, rfl⟩
  refine Own.W.putN (pc := 48) (hw _ (List.mem_of_getElem? (i := 26) rfl)) (Via.refl (O := "java/lang/String")) d2_48 (Or.inr ⟨(hw _ (List.mem_of_getElem? (i := 27) rfl)), rfl, rfl⟩) (hw _ (List.mem_of_getElem? (i := 2) rfl)) (ty := .byte) (by decide) rfl (by first | rfl | decide) (by repeat (first | exact Own.Upd.head | exact Own.Upd.mid | apply Own.Upd.tail)) (by repeat (first | exact Own.FUp.head | apply Own.FUp.tail)) ?_
  refine Own.W.aloadN (pc := 51) d2_51 rfl rfl ?_
  refine Own.W.aload (pc := 52) d2_52 rfl rfl ?_
  refine Own.W.putF (pc := 54) (host := "") (Or.inl (hw _ (List.mem_of_getElem? (i := 28) rfl))) (Via.refl (O := "java/lang/String")) d2_54 (Or.inr ⟨(hw _ (List.mem_of_getElem? (i := 29) rfl)), rfl, rfl⟩) (hw _ (List.mem_of_getElem? (i := 2) rfl)) (ty := (.array .byte)) (by decide) rfl rfl (by repeat (first | exact Own.Upd.head | exact Own.Upd.mid | apply Own.Upd.tail)) (by repeat (first | exact Own.FUp.head | apply Own.FUp.tail)) ?_
  refine Own.W.vret (pc := 57) d2_57 rfl ?_ (Nat.le_of_ble_eq_true rfl) (by first | exact Nat.le_of_ble_eq_true rfl | (simp; done) | (simp; omega))
  exact ⟨b, rfl, rfl, rfl⟩
theorem d1_0 : decode jdk_42_method_3_code 0 = .ok (.aload_n 0, 1) := by decide +kernel
theorem d1_1 : decode jdk_42_method_3_code 1 = .ok (.aload_n 1, 1) := by decide +kernel
theorem d1_2 : decode jdk_42_method_3_code 2 = .ok (.iconst 0, 1) := by decide +kernel
theorem d1_3 : decode jdk_42_method_3_code 3 = .ok (.aload_n 1, 1) := by decide +kernel
theorem d1_4 : decode jdk_42_method_3_code 4 = .ok (.arraylength, 1) := by decide +kernel
theorem d1_5 : decode jdk_42_method_3_code 5 = .ok (.aconst_null, 1) := by decide +kernel
theorem d1_6 : decode jdk_42_method_3_code 6 = .ok (.invokespecial 27, 3) := by decide +kernel
theorem pd_91355479 : parseMethodDescriptor "([CIILjava/lang/Void;)V" = some ⟨[(.array .char), .int, .int, (.object "java/lang/Void")], none⟩ := by decide +kernel
theorem d1_9 : decode jdk_42_method_3_code 9 = .ok (.return_, 1) := by decide +kernel
theorem pn_55852025 : plainFor (⟨"java/lang/String", "<init>", "([C)V"⟩ : MethodName) = true := by first | exact plainFor_of_name (by first | (simp [plainName, overriddenIn]; done) | decide +kernel) | decide +kernel
set_option maxRecDepth 65536 in
set_option maxHeartbeats 4000000 in
theorem ct_str1 (G : Own.Gx) (hw : ∀ d ∈ tables_1, d.before G.a0 G.Z = true) (hC : Own.CSt G) {As : List Own.Ent} {Li : List Own.LitE} (s c : Addr) (cs : List Int32) (N : Nat) (hpos : 0 < cs.length) (hN : cs.length ≤ N) (hN4 : N ≤ 4000) (hch : ∀ z ∈ cs, ¬ (255 : Int32) < z) (hm : Own.AVin G As c .char (cs.map Value.int)) :
    Own.Ct G [] (⟨"java/lang/String", "<init>", "([C)V"⟩ : MethodName) jdk_42_method_3_code 2 none ({ frames := 3, cells := 1, slots := N, locals := 52 } : Room) [.ref s, .ref c] ((s, true, Own.obj "java/lang/String" F_java_lang_String [.int 0, .null]) :: As) Li (fun v A L => ∃ b, v = none ∧ A = (b, true, Own.arr .byte (cs.map Own.byt)) :: (s, true, Own.obj "java/lang/String" F_java_lang_String [.int 0, .ref b]) :: As ∧ L = Li) := by
  refine Own.Ct.intro pn_55852025 (Ls := [.val (.ref s), .val (.ref c)]) rfl rfl ?_
  intro K
  refine Own.W.aloadN (pc := 0) d1_0 rfl rfl ?_
  refine Own.W.aloadN (pc := 1) d1_1 rfl rfl ?_
  refine Own.W.iconst (pc := 2) (z := (0 : Int32)) d1_2 (by decide) ?_
  refine Own.W.aloadN (pc := 3) d1_3 rfl rfl ?_
  refine Own.W.alen (pc := 4) d1_4 (hm.sub (Own.Sub.cons (Own.Sub.refl _))) (z := cs.length.toInt32) (by simp) ?_
  refine Own.W.aconstNull (pc := 5) d1_5 ?_
  refine Own.W.callI (pc := 6) (ct_void G hw hC s c cs N hpos hN hN4 hch hm) d1_6 rfl (hw _ (List.mem_of_getElem? (i := 7) rfl)) (hw _ (List.mem_of_getElem? (i := 8) rfl)) (hw _ (List.mem_of_getElem? (i := 3) rfl)) (hw _ (List.mem_of_getElem? (i := 10) rfl)) (by decide) pd_91355479 rfl rfl (Nat.le_of_ble_eq_true rfl) (Nat.le_of_ble_eq_true rfl) (Nat.le_of_ble_eq_true rfl) (by first | exact Nat.le_of_ble_eq_true rfl | (simp; done) | (simp; omega)) ?_
  rintro _ _ _ ⟨b, rfl, rfl, rfl⟩
  refine Own.W.vret (pc := 9) d1_9 rfl ?_ (Nat.le_of_ble_eq_true rfl) (by first | exact Nat.le_of_ble_eq_true rfl | (simp; done) | (simp; omega))
  exact ⟨b, rfl, rfl, rfl⟩
theorem d39_0 : decode jdk_43_method_13_code 0 = .ok (.aload_n 0, 1) := by decide +kernel
theorem d39_1 : decode jdk_43_method_13_code 1 = .ok (.arraylength, 1) := by decide +kernel
theorem d39_2 : decode jdk_43_method_13_code 2 = .ok (.aload_n 1, 1) := by decide +kernel
theorem d39_3 : decode jdk_43_method_13_code 3 = .ok (.arraylength, 1) := by decide +kernel
theorem d39_4 : decode jdk_43_method_13_code 4 = .ok (.if_icmp .ne 30, 3) := by decide +kernel
theorem d39_7 : decode jdk_43_method_13_code 7 = .ok (.iconst 0, 1) := by decide +kernel
theorem d39_8 : decode jdk_43_method_13_code 8 = .ok (.istore_n 2, 1) := by decide +kernel
theorem d39_9 : decode jdk_43_method_13_code 9 = .ok (.iload_n 2, 1) := by decide +kernel
theorem d39_10 : decode jdk_43_method_13_code 10 = .ok (.aload_n 0, 1) := by decide +kernel
theorem d39_11 : decode jdk_43_method_13_code 11 = .ok (.arraylength, 1) := by decide +kernel
theorem d39_12 : decode jdk_43_method_13_code 12 = .ok (.if_icmp .ge 20, 3) := by decide +kernel
theorem d39_32 : decode jdk_43_method_13_code 32 = .ok (.iconst 1, 1) := by decide +kernel
theorem d39_33 : decode jdk_43_method_13_code 33 = .ok (.ireturn, 1) := by decide +kernel
theorem d39_15 : decode jdk_43_method_13_code 15 = .ok (.aload_n 0, 1) := by decide +kernel
theorem d39_16 : decode jdk_43_method_13_code 16 = .ok (.iload_n 2, 1) := by decide +kernel
theorem d39_17 : decode jdk_43_method_13_code 17 = .ok (.baload, 1) := by decide +kernel
theorem d39_18 : decode jdk_43_method_13_code 18 = .ok (.aload_n 1, 1) := by decide +kernel
theorem d39_19 : decode jdk_43_method_13_code 19 = .ok (.iload_n 2, 1) := by decide +kernel
theorem d39_20 : decode jdk_43_method_13_code 20 = .ok (.baload, 1) := by decide +kernel
theorem d39_21 : decode jdk_43_method_13_code 21 = .ok (.if_icmp .eq 5, 3) := by decide +kernel
theorem d39_26 : decode jdk_43_method_13_code 26 = .ok (.iinc 2 1, 3) := by decide +kernel
theorem d39_29 : decode jdk_43_method_13_code 29 = .ok (.goto (-20), 3) := by decide +kernel
theorem d39_24 : decode jdk_43_method_13_code 24 = .ok (.iconst 0, 1) := by decide +kernel
theorem d39_25 : decode jdk_43_method_13_code 25 = .ok (.ireturn, 1) := by decide +kernel
theorem d39_34 : decode jdk_43_method_13_code 34 = .ok (.iconst 0, 1) := by decide +kernel
theorem d39_35 : decode jdk_43_method_13_code 35 = .ok (.ireturn, 1) := by decide +kernel
theorem pn_94709727 : plainFor (⟨"java/lang/StringLatin1", "equals", "([B[B)Z"⟩ : MethodName) = true := by first | exact plainFor_of_name (by first | (simp [plainName, overriddenIn]; done) | decide +kernel) | decide +kernel
set_option maxRecDepth 65536 in
set_option maxHeartbeats 4000000 in
theorem ct_leq (G : Own.Gx) (hw : ∀ d ∈ tables_1, d.before G.a0 G.Z = true) {As : List Own.Ent} {Li : List Own.LitE} (a b : Addr) (xs zs : List Int32) (hx : xs.length < 2147483648) (hz : zs.length < 2147483648) (ha : Own.AVin G As a .byte (xs.map Value.int)) (hb : Own.AVin G As b .byte (zs.map Value.int)) :
    Own.Ct G [] (⟨"java/lang/StringLatin1", "equals", "([B[B)Z"⟩ : MethodName) jdk_43_method_13_code 3 (some .boolean) ({ frames := 0, cells := 0, slots := 0, locals := 0 } : Room) [.ref a, .ref b] As Li (fun v A L => v = some (.int (Own.eqI xs zs)) ∧ As = A ∧ Li = L) := by
  refine Own.Ct.intro pn_94709727 (Ls := [.val (.ref a), .val (.ref b), .unset]) rfl rfl ?_
  intro K
  refine Own.W.aloadN (pc := 0) d39_0 rfl rfl ?_
  refine Own.W.alen (pc := 1) d39_1 ha (z := xs.length.toInt32) (by simp) ?_
  refine Own.W.aloadN (pc := 2) d39_2 rfl rfl ?_
  refine Own.W.alen (pc := 3) d39_3 hb (z := zs.length.toInt32) (by simp) ?_
  by_cases hl : xs.length = zs.length
  · refine Own.W.ic_ne (pc := 4) 34 d39_4 (by decide) (by decide) (fun h4 => absurd h4 (fun q => q (by rw [hl]))) ?_
    intro h4
    refine Own.W.iconst (pc := 7) (z := (0 : Int32)) d39_7 (by decide) ?_
    refine Own.W.istoreN (pc := 8) (Ls' := [_, _, _]) d39_8 rfl rfl ?_
    suffices loop : ∀ (m k : Nat), k + m = xs.length → (∀ j (h1 : j < xs.length) (h2 : j < zs.length), j < k → xs[j] = zs[j]) → Own.W G K (⟨"java/lang/StringLatin1", "equals", "([B[B)Z"⟩ : MethodName) jdk_43_method_13_code (some .boolean) ({ frames := 0, cells := 0, slots := 0, locals := 0 } : Room) (fun v A L => v = some (.int (Own.eqI xs zs)) ∧ As = A ∧ Li = L) As Li 0 0 9 [.val (.ref a), .val (.ref b), .val (.int k.toInt32)] [] by
      exact loop xs.length 0 (by simp) (fun _ _ _ h => absurd h (Nat.not_lt_zero _))
    intro m
    induction m with
    | zero =>
      intro k hk hall
      obtain rfl : k = xs.length := by omega
      refine Own.W.iloadN (pc := 9) d39_9 rfl ?_
      refine Own.W.aloadN (pc := 10) d39_10 rfl rfl ?_
      refine Own.W.alen (pc := 11) d39_11 ha (z := xs.length.toInt32) (by simp) ?_
      refine Own.W.ic_ge (pc := 12) 32 d39_12 (by decide) (by decide) ?_ (fun h12 => absurd h12 (Own.n_nlt (Nat.le_refl _) hx))
      intro h12
      refine Own.W.iconst (pc := 32) (z := (1 : Int32)) d39_32 (by decide) ?_
      refine Own.W.iret (pc := 33) d39_33 rfl (by simp) (by first | rfl | decide) ?_ (Nat.le_of_ble_eq_true rfl) (Nat.le_of_ble_eq_true rfl)
      exact ⟨by rw [Own.eqI_all hl fun k h1 h2 => hall k h1 h2 h1], rfl, rfl⟩
    | succ m ih =>
      intro k hk hall
      have hkx : k < xs.length := by omega
      have hkz : k < zs.length := by omega
      refine Own.W.iloadN (pc := 9) d39_9 rfl ?_
      refine Own.W.aloadN (pc := 10) d39_10 rfl rfl ?_
      refine Own.W.alen (pc := 11) d39_11 ha (z := xs.length.toInt32) (by simp) ?_
      refine Own.W.ic_ge (pc := 12) 32 d39_12 (by decide) (by decide) (fun h12 => absurd h12 (fun q => q (Own.n_lt hkx hx))) ?_
      intro h12
      refine Own.W.aloadN (pc := 15) d39_15 rfl rfl ?_
      refine Own.W.iloadN (pc := 16) d39_16 rfl ?_
      refine Own.W.baload (pc := 17) d39_17 ha (Own.n_nn (by omega)) (v := .int xs[k]) (by rw [Own.n_clamp (by omega)]; simp [hkx]) ?_
      refine Own.W.aloadN (pc := 18) d39_18 rfl rfl ?_
      refine Own.W.iloadN (pc := 19) d39_19 rfl ?_
      refine Own.W.baload (pc := 20) d39_20 hb (Own.n_nn (by omega)) (v := .int zs[k]) (by rw [Own.n_clamp (by omega)]; simp [hkz]) ?_
      refine Own.W.ic_eq (pc := 21) 26 d39_21 (by decide) (by decide) ?_ ?_
      · intro h21
        refine Own.W.iinc (pc := 26) (z := (1 : Int32)) (Ls' := [_, _, _]) d39_26 rfl (by decide) rfl rfl ?_
        refine Own.W.goto (pc := 29) 9 d39_29 (by decide) (by decide) ?_
        have ih' := ih (k + 1) (by omega) (fun j h1 h2 hj => by
          rcases Nat.lt_or_eq_of_le (Nat.le_of_lt_succ hj) with q | rfl
          · exact hall j h1 h2 q
          · exact h21)
        rw [← Own.n_succ] at ih'
        exact ih'
      · intro h21
        refine Own.W.iconst (pc := 24) (z := (0 : Int32)) d39_24 (by decide) ?_
        refine Own.W.iret (pc := 25) d39_25 rfl (by simp) (by first | rfl | decide) ?_ (Nat.le_of_ble_eq_true rfl) (Nat.le_of_ble_eq_true rfl)
        exact ⟨by rw [Own.eqI_at hkx hkz h21], rfl, rfl⟩
  · refine Own.W.ic_ne (pc := 4) 34 d39_4 (by decide) (by decide) ?_ (fun h4 => absurd h4 (fun q => hl (Own.n_inj hx hz q)))
    intro h4
    refine Own.W.iconst (pc := 34) (z := (0 : Int32)) d39_34 (by decide) ?_
    refine Own.W.iret (pc := 35) d39_35 rfl (by simp) (by first | rfl | decide) ?_ (Nat.le_of_ble_eq_true rfl) (Nat.le_of_ble_eq_true rfl)
    exact ⟨by rw [Own.eqI_len hl], rfl, rfl⟩
theorem d38_0 : decode jdk_42_method_66_code 0 = .ok (.aload_n 0, 1) := by decide +kernel
theorem d38_1 : decode jdk_42_method_66_code 1 = .ok (.aload_n 1, 1) := by decide +kernel
theorem d38_2 : decode jdk_42_method_66_code 2 = .ok (.if_acmp .ne 5, 3) := by decide +kernel
theorem d38_5 : decode jdk_42_method_66_code 5 = .ok (.iconst 1, 1) := by decide +kernel
theorem d38_6 : decode jdk_42_method_66_code 6 = .ok (.ireturn, 1) := by decide +kernel
theorem d38_7 : decode jdk_42_method_66_code 7 = .ok (.aload_n 1, 1) := by decide +kernel
theorem d38_8 : decode jdk_42_method_66_code 8 = .ok (.instanceof 10, 3) := by decide +kernel
theorem d38_11 : decode jdk_42_method_66_code 11 = .ok (.ifCond .eq 43, 3) := by decide +kernel
theorem d38_14 : decode jdk_42_method_66_code 14 = .ok (.aload_n 1, 1) := by decide +kernel
theorem d38_15 : decode jdk_42_method_66_code 15 = .ok (.checkcast 10, 3) := by decide +kernel
theorem d38_18 : decode jdk_42_method_66_code 18 = .ok (.astore_n 2, 1) := by decide +kernel
theorem d38_19 : decode jdk_42_method_66_code 19 = .ok (.getstatic 38, 3) := by decide +kernel
theorem d38_22 : decode jdk_42_method_66_code 22 = .ok (.ifCond .eq 14, 3) := by decide +kernel
theorem d38_25 : decode jdk_42_method_66_code 25 = .ok (.aload_n 0, 1) := by decide +kernel
theorem d38_26 : decode jdk_42_method_66_code 26 = .ok (.getfield 15, 3) := by decide +kernel
theorem d38_29 : decode jdk_42_method_66_code 29 = .ok (.aload_n 2, 1) := by decide +kernel
theorem d38_30 : decode jdk_42_method_66_code 30 = .ok (.getfield 15, 3) := by decide +kernel
theorem d38_33 : decode jdk_42_method_66_code 33 = .ok (.if_icmp .ne 21, 3) := by decide +kernel
theorem d38_36 : decode jdk_42_method_66_code 36 = .ok (.aload_n 0, 1) := by decide +kernel
theorem d38_37 : decode jdk_42_method_66_code 37 = .ok (.getfield 9, 3) := by decide +kernel
theorem d38_40 : decode jdk_42_method_66_code 40 = .ok (.aload_n 2, 1) := by decide +kernel
theorem d38_41 : decode jdk_42_method_66_code 41 = .ok (.getfield 9, 3) := by decide +kernel
theorem d38_44 : decode jdk_42_method_66_code 44 = .ok (.invokestatic 541, 3) := by decide +kernel
theorem pd_24935658 : parseMethodDescriptor "([B[B)Z" = some ⟨[(.array .byte), (.array .byte)], some .boolean⟩ := by decide +kernel
theorem d38_47 : decode jdk_42_method_66_code 47 = .ok (.ifCond .eq 7, 3) := by decide +kernel
theorem d38_50 : decode jdk_42_method_66_code 50 = .ok (.iconst 1, 1) := by decide +kernel
theorem d38_51 : decode jdk_42_method_66_code 51 = .ok (.goto 4, 3) := by decide +kernel
theorem d38_55 : decode jdk_42_method_66_code 55 = .ok (.ireturn, 1) := by decide +kernel
theorem d38_54 : decode jdk_42_method_66_code 54 = .ok (.iconst 0, 1) := by decide +kernel
theorem pn_54399388 : plainFor (⟨"java/lang/String", "equals", "(Ljava/lang/Object;)Z"⟩ : MethodName) = true := by first | exact plainFor_of_name (by first | (simp [plainName, overriddenIn]; done) | decide +kernel) | decide +kernel
set_option maxRecDepth 65536 in
set_option maxHeartbeats 4000000 in
theorem ct_seq (G : Own.Gx) (hw : ∀ d ∈ tables_1, d.before G.a0 G.Z = true) (hC : Own.CSt G) {As : List Own.Ent} {Li : List Own.LitE} (a b : Addr) (xs zs : List Int32) (hx : xs.length < 2147483648) (hz : zs.length < 2147483648) (ha : Own.StrIn G As a (xs.map Value.int) 0) (hb : Own.StrIn G As b (zs.map Value.int) 0) :
    Own.Ct G [] (⟨"java/lang/String", "equals", "(Ljava/lang/Object;)Z"⟩ : MethodName) jdk_42_method_66_code 3 (some .boolean) ({ frames := 1, cells := 0, slots := 0, locals := 14 } : Room) [.ref a, .ref b] As Li (fun v A L => v = some (.int (Own.eqI xs zs)) ∧ As = A ∧ Li = L) := by
  refine Own.Ct.intro pn_54399388 (Ls := [.val (.ref a), .val (.ref b), .unset]) rfl rfl ?_
  intro K
  obtain ⟨cz, hC1, hC2⟩ := hC
  obtain ⟨ab, a1, a2, a3, a4⟩ := id ha
  obtain ⟨bb, b1, b2, b3, b4⟩ := id hb
  refine Own.W.aloadN (pc := 0) d38_0 rfl rfl ?_
  refine Own.W.aloadN (pc := 1) d38_1 rfl rfl ?_
  by_cases hab : a = b
  · subst hab
    refine Own.W.know fun h I => ?_
    obtain rfl : xs = zs := Own.map_int_inj (ha.uniq I hb)
    refine Own.W.ac0 (pc := 2) d38_2 rfl rfl (by simp [Jvm.Free.XT.acmp]) ?_
    refine Own.W.iconst (pc := 5) (z := (1 : Int32)) d38_5 (by decide) ?_
    refine Own.W.iret (pc := 6) d38_6 rfl (by simp) (by first | rfl | decide) ?_ (Nat.le_of_ble_eq_true rfl) (Nat.le_of_ble_eq_true rfl)
    exact ⟨by rw [Own.eqI_self], rfl, rfl⟩
  · refine Own.W.ac1 (pc := 2) 7 d38_2 (by decide) (by decide) rfl rfl (by simp [Jvm.Free.XT.acmp, hab]) ?_
    refine Own.W.aloadN (pc := 7) d38_7 rfl rfl ?_
    refine Own.W.inst (pc := 8) (hw _ (List.mem_of_getElem? (i := 207) rfl)) d38_8 b1 (Or.inl rfl) ?_
    refine Own.W.if_eq (pc := 11) 54 d38_11 (by decide) (by decide) (fun h11 => absurd h11 (by decide)) ?_
    intro h11
    refine Own.W.aloadN (pc := 14) d38_14 rfl rfl ?_
    refine Own.W.cast (pc := 15) (hw _ (List.mem_of_getElem? (i := 207) rfl)) d38_15 b1 (Or.inl rfl) ?_
    refine Own.W.astoreN (pc := 18) (Ls' := [_, _, _]) d38_18 rfl rfl rfl ?_
    refine Own.W.getS (pc := 19) (host := "") (Or.inl (hw _ (List.mem_of_getElem? (i := 14) rfl))) (Via.refl (O := "java/lang/String")) d38_19 hC1 ?_
    refine Own.W.if_eq (pc := 22) 36 d38_22 (by decide) (by decide) (fun h22 => absurd h22 hC2) ?_
    intro h22
    refine Own.W.aloadN (pc := 25) d38_25 rfl rfl ?_
    refine Own.W.getI (pc := 26) (host := "") (Or.inl (hw _ (List.mem_of_getElem? (i := 26) rfl))) (Via.refl (O := "java/lang/String")) d38_26 a3 ?_
    refine Own.W.aloadN (pc := 29) d38_29 rfl rfl ?_
    refine Own.W.getI (pc := 30) (host := "") (Or.inl (hw _ (List.mem_of_getElem? (i := 26) rfl))) (Via.refl (O := "java/lang/String")) d38_30 b3 ?_
    refine Own.W.ic_ne (pc := 33) 54 d38_33 (by decide) (by decide) (fun h33 => absurd h33 (fun q => q rfl)) ?_
    intro h33
    refine Own.W.aloadN (pc := 36) d38_36 rfl rfl ?_
    refine Own.W.getI (pc := 37) (host := "") (Or.inl (hw _ (List.mem_of_getElem? (i := 28) rfl))) (Via.refl (O := "java/lang/String")) d38_37 a2 ?_
    refine Own.W.aloadN (pc := 40) d38_40 rfl rfl ?_
    refine Own.W.getI (pc := 41) (host := "") (Or.inl (hw _ (List.mem_of_getElem? (i := 28) rfl))) (Via.refl (O := "java/lang/String")) d38_41 b2 ?_
    refine Own.W.callS (pc := 44) (ct_leq G hw ab bb xs zs hx hz a4 b4) d38_44 (hw _ (List.mem_of_getElem? (i := 208) rfl)) (hw _ (List.mem_of_getElem? (i := 209) rfl)) (hw _ (List.mem_of_getElem? (i := 210) rfl)) (hw _ (List.mem_of_getElem? (i := 211) rfl)) (by decide) pd_24935658 rfl rfl (Nat.le_of_ble_eq_true rfl) (Nat.le_of_ble_eq_true rfl) (Nat.le_of_ble_eq_true rfl) (Nat.le_of_ble_eq_true rfl) ?_
    rintro _ _ _ ⟨rfl, rfl, rfl⟩
    by_cases he : xs = zs
    · have e1 : Own.eqI xs zs = 1 := if_pos he
      rw [e1]
      refine Own.W.if_eq (pc := 47) 54 d38_47 (by decide) (by decide) (fun h47 => absurd h47 (by decide)) ?_
      intro h47
      refine Own.W.iconst (pc := 50) (z := (1 : Int32)) d38_50 (by decide) ?_
      refine Own.W.goto (pc := 51) 55 d38_51 (by decide) (by decide) ?_
      refine Own.W.iret (pc := 55) d38_55 rfl (by simp) (by first | rfl | decide) ?_ (Nat.le_of_ble_eq_true rfl) (Nat.le_of_ble_eq_true rfl)
      exact ⟨by first | rfl | rw [e1], rfl, rfl⟩
    · have e1 : Own.eqI xs zs = 0 := if_neg he
      rw [e1]
      refine Own.W.if_eq (pc := 47) 54 d38_47 (by decide) (by decide) ?_ (fun h47 => absurd h47 (fun q => q rfl))
      intro h47
      refine Own.W.iconst (pc := 54) (z := (0 : Int32)) d38_54 (by decide) ?_
      refine Own.W.iret (pc := 55) d38_55 rfl (by simp) (by first | rfl | decide) ?_ (Nat.le_of_ble_eq_true rfl) (Nat.le_of_ble_eq_true rfl)
      exact ⟨by first | rfl | rw [e1], rfl, rfl⟩
theorem d25_0 : decode jdk_29_method_65_code 0 = .ok (.iload_n 0, 1) := by decide +kernel
theorem d25_1 : decode jdk_29_method_65_code 1 = .ok (.iload_n 1, 1) := by decide +kernel
theorem d25_2 : decode jdk_29_method_65_code 2 = .ok (.if_icmp .lt 7, 3) := by decide +kernel
theorem d25_9 : decode jdk_29_method_65_code 9 = .ok (.iload_n 1, 1) := by decide +kernel
theorem d25_10 : decode jdk_29_method_65_code 10 = .ok (.ireturn, 1) := by decide +kernel
theorem d25_5 : decode jdk_29_method_65_code 5 = .ok (.iload_n 0, 1) := by decide +kernel
theorem d25_6 : decode jdk_29_method_65_code 6 = .ok (.goto 4, 3) := by decide +kernel
theorem pn_31943339 : plainFor (⟨"java/lang/Math", "max", "(II)I"⟩ : MethodName) = true := by first | exact plainFor_of_name (by first | (simp [plainName, overriddenIn]; done) | decide +kernel) | decide +kernel
set_option maxRecDepth 65536 in
set_option maxHeartbeats 4000000 in
theorem ct_max (G : Own.Gx) (hw : ∀ d ∈ tables_1, d.before G.a0 G.Z = true) {As : List Own.Ent} {Li : List Own.LitE} (a b : Nat) (ha : a < 2147483648) (hb : b < 2147483648) :
    Own.Ct G [] (⟨"java/lang/Math", "max", "(II)I"⟩ : MethodName) jdk_29_method_65_code 2 (some .int) ({ frames := 0, cells := 0, slots := 0, locals := 0 } : Room) [.int a.toInt32, .int b.toInt32] As Li (fun v A L => v = some (.int (max a b).toInt32) ∧ As = A ∧ Li = L) := by
  refine Own.Ct.intro pn_31943339 (Ls := [.val (.int a.toInt32), .val (.int b.toInt32)]) rfl rfl ?_
  intro K
  refine Own.W.iloadN (pc := 0) d25_0 rfl ?_
  refine Own.W.iloadN (pc := 1) d25_1 rfl ?_
  refine Own.W.ic_lt (pc := 2) 9 d25_2 (by decide) (by decide) ?_ ?_
  · intro h2
    refine Own.W.iloadN (pc := 9) d25_9 rfl ?_
    refine Own.W.iret (pc := 10) d25_10 rfl (by simp) rfl ?_ (Nat.le_of_ble_eq_true rfl) (Nat.le_of_ble_eq_true rfl)
    exact ⟨by rw [Own.n_max ha hb h2], rfl, rfl⟩
  · intro h2
    refine Own.W.iloadN (pc := 5) d25_5 rfl ?_
    refine Own.W.goto (pc := 6) 10 d25_6 (by decide) (by decide) ?_
    refine Own.W.iret (pc := 10) d25_10 rfl (by simp) rfl ?_ (Nat.le_of_ble_eq_true rfl) (Nat.le_of_ble_eq_true rfl)
    exact ⟨by rw [Own.n_max' ha hb h2], rfl, rfl⟩
theorem d27_0 : decode jdk_29_method_69_code 0 = .ok (.iload_n 0, 1) := by decide +kernel
theorem d27_1 : decode jdk_29_method_69_code 1 = .ok (.iload_n 1, 1) := by decide +kernel
theorem d27_2 : decode jdk_29_method_69_code 2 = .ok (.if_icmp .gt 7, 3) := by decide +kernel
theorem d27_9 : decode jdk_29_method_69_code 9 = .ok (.iload_n 1, 1) := by decide +kernel
theorem d27_10 : decode jdk_29_method_69_code 10 = .ok (.ireturn, 1) := by decide +kernel
theorem d27_5 : decode jdk_29_method_69_code 5 = .ok (.iload_n 0, 1) := by decide +kernel
theorem d27_6 : decode jdk_29_method_69_code 6 = .ok (.goto 4, 3) := by decide +kernel
theorem pn_47292969 : plainFor (⟨"java/lang/Math", "min", "(II)I"⟩ : MethodName) = true := by first | exact plainFor_of_name (by first | (simp [plainName, overriddenIn]; done) | decide +kernel) | decide +kernel
set_option maxRecDepth 65536 in
set_option maxHeartbeats 4000000 in
theorem ct_min (G : Own.Gx) (hw : ∀ d ∈ tables_1, d.before G.a0 G.Z = true) {As : List Own.Ent} {Li : List Own.LitE} (a b : Nat) (ha : a < 2147483648) (hb : b < 2147483648) :
    Own.Ct G [] (⟨"java/lang/Math", "min", "(II)I"⟩ : MethodName) jdk_29_method_69_code 2 (some .int) ({ frames := 0, cells := 0, slots := 0, locals := 0 } : Room) [.int a.toInt32, .int b.toInt32] As Li (fun v A L => v = some (.int (min a b).toInt32) ∧ As = A ∧ Li = L) := by
  refine Own.Ct.intro pn_47292969 (Ls := [.val (.int a.toInt32), .val (.int b.toInt32)]) rfl rfl ?_
  intro K
  refine Own.W.iloadN (pc := 0) d27_0 rfl ?_
  refine Own.W.iloadN (pc := 1) d27_1 rfl ?_
  refine Own.W.ic_gt (pc := 2) 9 d27_2 (by decide) (by decide) ?_ ?_
  · intro h2
    refine Own.W.iloadN (pc := 9) d27_9 rfl ?_
    refine Own.W.iret (pc := 10) d27_10 rfl (by simp) rfl ?_ (Nat.le_of_ble_eq_true rfl) (Nat.le_of_ble_eq_true rfl)
    exact ⟨by rw [Own.n_min ha hb h2], rfl, rfl⟩
  · intro h2
    refine Own.W.iloadN (pc := 5) d27_5 rfl ?_
    refine Own.W.goto (pc := 6) 10 d27_6 (by decide) (by decide) ?_
    refine Own.W.iret (pc := 10) d27_10 rfl (by simp) rfl ?_ (Nat.le_of_ble_eq_true rfl) (Nat.le_of_ble_eq_true rfl)
    exact ⟨by rw [Own.n_min' ha hb h2], rfl, rfl⟩
theorem d26_0 : decode jdk_65_method_121_code 0 = .ok (.iload_n 1, 1) := by decide +kernel
theorem d26_1 : decode jdk_65_method_121_code 1 = .ok (.aload_n 0, 1) := by decide +kernel
theorem d26_2 : decode jdk_65_method_121_code 2 = .ok (.arraylength, 1) := by decide +kernel
theorem d26_3 : decode jdk_65_method_121_code 3 = .ok (.if_icmp .ne 11, 3) := by decide +kernel
theorem d26_14 : decode jdk_65_method_121_code 14 = .ok (.iload_n 1, 1) := by decide +kernel
theorem d26_15 : decode jdk_65_method_121_code 15 = .ok (.newarray .byte, 2) := by decide +kernel
theorem d26_17 : decode jdk_65_method_121_code 17 = .ok (.astore_n 2, 1) := by decide +kernel
theorem d26_18 : decode jdk_65_method_121_code 18 = .ok (.aload_n 0, 1) := by decide +kernel
theorem d26_19 : decode jdk_65_method_121_code 19 = .ok (.iconst 0, 1) := by decide +kernel
theorem d26_20 : decode jdk_65_method_121_code 20 = .ok (.aload_n 2, 1) := by decide +kernel
theorem d26_21 : decode jdk_65_method_121_code 21 = .ok (.iconst 0, 1) := by decide +kernel
theorem d26_22 : decode jdk_65_method_121_code 22 = .ok (.aload_n 0, 1) := by decide +kernel
theorem d26_23 : decode jdk_65_method_121_code 23 = .ok (.arraylength, 1) := by decide +kernel
theorem d26_24 : decode jdk_65_method_121_code 24 = .ok (.iload_n 1, 1) := by decide +kernel
theorem d26_25 : decode jdk_65_method_121_code 25 = .ok (.invokestatic 304, 3) := by decide +kernel
theorem pd_84293393 : parseMethodDescriptor "(II)I" = some ⟨[.int, .int], some .int⟩ := by decide +kernel
theorem d26_28 : decode jdk_65_method_121_code 28 = .ok (.invokestatic 150, 3) := by decide +kernel
theorem d26_31 : decode jdk_65_method_121_code 31 = .ok (.aload_n 2, 1) := by decide +kernel
theorem d26_32 : decode jdk_65_method_121_code 32 = .ok (.areturn, 1) := by decide +kernel
theorem pn_15054465 : plainFor (⟨"java/util/Arrays", "copyOf", "([BI)[B"⟩ : MethodName) = true := by first | exact plainFor_of_name (by first | (simp [plainName, overriddenIn]; done) | decide +kernel) | decide +kernel
set_option maxRecDepth 65536 in
set_option maxHeartbeats 4000000 in
theorem ct_cpy (G : Own.Gx) (hw : ∀ d ∈ tables_1, d.before G.a0 G.Z = true) {As : List Own.Ent} {Li : List Own.LitE} (b : Addr) (vs : List Value) (n N : Nat) (hv : vs.length < n) (hn : n ≤ N) (hN : N ≤ 4000) (hm : Own.AVin G As b .byte vs) :
    Own.Ct G [] (⟨"java/util/Arrays", "copyOf", "([BI)[B"⟩ : MethodName) jdk_65_method_121_code 3 (some (.array .byte)) ({ frames := 1, cells := 1, slots := N, locals := 18 } : Room) [.ref b, .int n.toInt32] As Li (fun v A L => ∃ o, v = some (.ref o) ∧ A = (o, true, Own.arr .byte (vs ++ List.replicate (n - vs.length) (Value.int 0))) :: As ∧ Li = L) := by
  refine Own.Ct.intro pn_15054465 (Ls := [.val (.ref b), .val (.int n.toInt32), .unset]) rfl rfl ?_
  intro K
  refine Own.W.iloadN (pc := 0) d26_0 rfl ?_
  refine Own.W.aloadN (pc := 1) d26_1 rfl rfl ?_
  refine Own.W.alen (pc := 2) d26_2 hm (z := vs.length.toInt32) rfl ?_
  refine Own.W.ic_ne (pc := 3) 14 d26_3 (by decide) (by decide) ?_ (fun h3 => absurd h3 (Own.n_ne (by omega) (by omega) (by omega)))
  intro h3
  refine Own.W.iloadN (pc := 14) d26_14 rfl ?_
  refine Own.W.newP (pc := 15) N (hw _ (List.mem_of_getElem? (i := 19) rfl)) d26_15 rfl (Own.n_nn (by omega)) (by rw [Own.n_clamp (by omega)]; omega) (by omega) (vs := (List.replicate n (Value.int 0))) (by rw [Own.n_clamp (by omega)]; rfl) (Nat.le_of_ble_eq_true rfl) (by first | exact Nat.le_of_ble_eq_true rfl | (simp; done) | (simp; omega)) ?_
  intro o15
  refine Own.W.astoreN (pc := 17) (Ls' := [_, _, _]) d26_17 rfl rfl rfl ?_
  refine Own.W.aloadN (pc := 18) d26_18 rfl rfl ?_
  refine Own.W.iconst (pc := 19) (z := (0 : Int32)) d26_19 (by decide) ?_
  refine Own.W.aloadN (pc := 20) d26_20 rfl rfl ?_
  refine Own.W.iconst (pc := 21) (z := (0 : Int32)) d26_21 (by decide) ?_
  refine Own.W.aloadN (pc := 22) d26_22 rfl rfl ?_
  refine Own.W.alen (pc := 23) d26_23 (hm.sub (Own.Sub.cons (Own.Sub.refl _))) (z := vs.length.toInt32) rfl ?_
  refine Own.W.iloadN (pc := 24) d26_24 rfl ?_
  refine Own.W.callS (pc := 25) (ct_min G hw vs.length n (by omega) (by omega)) d26_25 (hw _ (List.mem_of_getElem? (i := 158) rfl)) (hw _ (List.mem_of_getElem? (i := 159) rfl)) (hw _ (List.mem_of_getElem? (i := 150) rfl)) (hw _ (List.mem_of_getElem? (i := 160) rfl)) (by decide) pd_84293393 rfl rfl (Nat.le_of_ble_eq_true rfl) (Nat.le_of_ble_eq_true rfl) (Nat.le_of_ble_eq_true rfl) (by first | exact Nat.le_of_ble_eq_true rfl | (simp; done) | (simp; omega)) ?_
  rintro _ _ _ ⟨rfl, rfl, rfl⟩
  refine Own.W.acopy (pc := 28) (us := List.replicate n (Value.int 0)) d26_28 (hw _ (List.mem_of_getElem? (i := 161) rfl)) (hw _ (List.mem_of_getElem? (i := 129) rfl)) (hw _ (List.mem_of_getElem? (i := 127) rfl)) (hw _ (List.mem_of_getElem? (i := 128) rfl)) (hm.sub (Own.Sub.cons (Own.Sub.refl _))) rfl (by decide) (by decide) (Own.n_nn (by omega)) (i := 0) rfl (j := 0) rfl (n := vs.length) (by rw [Own.n_clamp (by omega)]; omega) (by omega) (by simp; omega) (us' := vs ++ List.replicate (n - vs.length) (Value.int 0)) (by simp) (by repeat (first | exact Own.Upd.head | exact Own.Upd.mid | apply Own.Upd.tail)) (Nat.le_of_ble_eq_true rfl) (Nat.le_of_ble_eq_true rfl) ?_
  refine Own.W.aloadN (pc := 31) d26_31 rfl rfl ?_
  refine Own.W.aret (pc := 32) d26_32 rfl rfl rfl ?_ (by first | exact Nat.le_of_ble_eq_true rfl | (simp; done) | (simp; omega)) (by first | exact Nat.le_of_ble_eq_true rfl | (simp; done) | (simp; omega))
  exact ⟨_, rfl, rfl, rfl⟩
theorem d37_0 : decode jdk_65_method_131_code 0 = .ok (.iload_n 1, 1) := by decide +kernel
theorem d37_1 : decode jdk_65_method_131_code 1 = .ok (.iload_n 0, 1) := by decide +kernel
theorem d37_2 : decode jdk_65_method_131_code 2 = .ok (.if_icmp .ge 35, 3) := by decide +kernel
theorem d37_37 : decode jdk_65_method_131_code 37 = .ok (.return_, 1) := by decide +kernel
theorem pn_95794678 : plainFor (⟨"java/util/Arrays", "checkLength", "(II)V"⟩ : MethodName) = true := by first | exact plainFor_of_name (by first | (simp [plainName, overriddenIn]; done) | decide +kernel) | decide +kernel
set_option maxRecDepth 65536 in
set_option maxHeartbeats 4000000 in
theorem ct_ckl (G : Own.Gx) (hw : ∀ d ∈ tables_1, d.before G.a0 G.Z = true) {As : List Own.Ent} {Li : List Own.LitE} (a b : Nat) (h : a ≤ b) (hb : b < 2147483648) :
    Own.Ct G [] (⟨"java/util/Arrays", "checkLength", "(II)V"⟩ : MethodName) jdk_65_method_131_code 2 none ({ frames := 0, cells := 0, slots := 0, locals := 0 } : Room) [.int a.toInt32, .int b.toInt32] As Li (fun v A L => v = none ∧ As = A ∧ Li = L) := by
  refine Own.Ct.intro pn_95794678 (Ls := [.val (.int a.toInt32), .val (.int b.toInt32)]) rfl rfl ?_
  intro K
  refine Own.W.iloadN (pc := 0) d37_0 rfl ?_
  refine Own.W.iloadN (pc := 1) d37_1 rfl ?_
  refine Own.W.ic_ge (pc := 2) 37 d37_2 (by decide) (by decide) ?_ (fun h2 => absurd h2 (Own.n_nlt h hb))
  intro h2
  refine Own.W.vret (pc := 37) d37_37 rfl ?_ (Nat.le_of_ble_eq_true rfl) (Nat.le_of_ble_eq_true rfl)
  exact ⟨rfl, rfl, rfl⟩
theorem d36_0 : decode jdk_65_method_133_code 0 = .ok (.iload_n 1, 1) := by decide +kernel
theorem d36_1 : decode jdk_65_method_133_code 1 = .ok (.iload_n 2, 1) := by decide +kernel
theorem d36_2 : decode jdk_65_method_133_code 2 = .ok (.invokestatic 343, 3) := by decide +kernel
theorem pd_84293406 : parseMethodDescriptor "(II)V" = some ⟨[.int, .int], none⟩ := by decide +kernel
theorem d36_5 : decode jdk_65_method_133_code 5 = .ok (.iload_n 2, 1) := by decide +kernel
theorem d36_6 : decode jdk_65_method_133_code 6 = .ok (.iload_n 1, 1) := by decide +kernel
theorem d36_7 : decode jdk_65_method_133_code 7 = .ok (.isub, 1) := by decide +kernel
theorem d36_8 : decode jdk_65_method_133_code 8 = .ok (.istore_n 3, 1) := by decide +kernel
theorem d36_9 : decode jdk_65_method_133_code 9 = .ok (.iload_n 3, 1) := by decide +kernel
theorem d36_10 : decode jdk_65_method_133_code 10 = .ok (.newarray .byte, 2) := by decide +kernel
theorem d36_12 : decode jdk_65_method_133_code 12 = .ok (.astore 4, 2) := by decide +kernel
theorem d36_14 : decode jdk_65_method_133_code 14 = .ok (.aload_n 0, 1) := by decide +kernel
theorem d36_15 : decode jdk_65_method_133_code 15 = .ok (.iload_n 1, 1) := by decide +kernel
theorem d36_16 : decode jdk_65_method_133_code 16 = .ok (.aload 4, 2) := by decide +kernel
theorem d36_18 : decode jdk_65_method_133_code 18 = .ok (.iconst 0, 1) := by decide +kernel
theorem d36_19 : decode jdk_65_method_133_code 19 = .ok (.aload_n 0, 1) := by decide +kernel
theorem d36_20 : decode jdk_65_method_133_code 20 = .ok (.arraylength, 1) := by decide +kernel
theorem d36_21 : decode jdk_65_method_133_code 21 = .ok (.iload_n 1, 1) := by decide +kernel
theorem d36_22 : decode jdk_65_method_133_code 22 = .ok (.isub, 1) := by decide +kernel
theorem d36_23 : decode jdk_65_method_133_code 23 = .ok (.iload_n 3, 1) := by decide +kernel
theorem d36_24 : decode jdk_65_method_133_code 24 = .ok (.invokestatic 304, 3) := by decide +kernel
theorem d36_27 : decode jdk_65_method_133_code 27 = .ok (.invokestatic 150, 3) := by decide +kernel
theorem d36_30 : decode jdk_65_method_133_code 30 = .ok (.aload 4, 2) := by decide +kernel
theorem d36_32 : decode jdk_65_method_133_code 32 = .ok (.areturn, 1) := by decide +kernel
theorem pn_91036491 : plainFor (⟨"java/util/Arrays", "copyOfRangeByte", "([BII)[B"⟩ : MethodName) = true := by first | exact plainFor_of_name (by first | (simp [plainName, overriddenIn]; done) | decide +kernel) | decide +kernel
set_option maxRecDepth 65536 in
set_option maxHeartbeats 4000000 in
theorem ct_crb (G : Own.Gx) (hw : ∀ d ∈ tables_1, d.before G.a0 G.Z = true) {As : List Own.Ent} {Li : List Own.LitE} (b : Addr) (vs : List Value) (n N : Nat) (hv : n < vs.length) (hv31 : vs.length < 2147483648) (hn : n ≤ N) (hN : N ≤ 4000) (hm : Own.AVin G As b .byte vs) :
    Own.Ct G [] (⟨"java/util/Arrays", "copyOfRangeByte", "([BII)[B"⟩ : MethodName) jdk_65_method_133_code 5 (some (.array .byte)) ({ frames := 1, cells := 1, slots := N, locals := 18 } : Room) [.ref b, .int 0, .int n.toInt32] As Li (fun v A L => ∃ o, v = some (.ref o) ∧ A = (o, true, Own.arr .byte (vs.take n)) :: As ∧ Li = L) := by
  refine Own.Ct.intro pn_91036491 (Ls := [.val (.ref b), .val (.int 0), .val (.int n.toInt32), .unset, .unset]) rfl rfl ?_
  intro K
  refine Own.W.iloadN (pc := 0) d36_0 rfl ?_
  refine Own.W.iloadN (pc := 1) d36_1 rfl ?_
  refine Own.W.callS (pc := 2) (ct_ckl G hw 0 n (by omega) (by omega)) d36_2 (hw _ (List.mem_of_getElem? (i := 198) rfl)) (hw _ (List.mem_of_getElem? (i := 199) rfl)) (hw _ (List.mem_of_getElem? (i := 156) rfl)) (hw _ (List.mem_of_getElem? (i := 200) rfl)) (by decide) pd_84293406 rfl rfl (Nat.le_of_ble_eq_true rfl) (Nat.le_of_ble_eq_true rfl) (Nat.le_of_ble_eq_true rfl) (by first | exact Nat.le_of_ble_eq_true rfl | (simp; done) | (simp; omega)) ?_
  rintro _ _ _ ⟨rfl, rfl, rfl⟩
  refine Own.W.iloadN (pc := 5) d36_5 rfl ?_
  refine Own.W.iloadN (pc := 6) d36_6 rfl ?_
  refine Own.W.isub (pc := 7) d36_7 (z := n.toInt32) (Int32.sub_zero _) ?_
  refine Own.W.istoreN (pc := 8) (Ls' := [_, _, _, _, _]) d36_8 rfl rfl ?_
  refine Own.W.iloadN (pc := 9) d36_9 rfl ?_
  refine Own.W.newP (pc := 10) N (hw _ (List.mem_of_getElem? (i := 19) rfl)) d36_10 rfl (Own.n_nn (by omega)) (by rw [Own.n_clamp (by omega)]; omega) (by omega) (vs := (List.replicate n (Value.int 0))) (by rw [Own.n_clamp (by omega)]; rfl) (Nat.le_of_ble_eq_true rfl) (by first | exact Nat.le_of_ble_eq_true rfl | (simp; done) | (simp; omega)) ?_
  intro o10
  refine Own.W.astore (pc := 12) (Ls' := [_, _, _, _, _]) d36_12 rfl rfl rfl ?_
  refine Own.W.aloadN (pc := 14) d36_14 rfl rfl ?_
  refine Own.W.iloadN (pc := 15) d36_15 rfl ?_
  refine Own.W.aload (pc := 16) d36_16 rfl rfl ?_
  refine Own.W.iconst (pc := 18) (z := (0 : Int32)) d36_18 (by decide) ?_
  refine Own.W.aloadN (pc := 19) d36_19 rfl rfl ?_
  refine Own.W.alen (pc := 20) d36_20 (hm.sub (Own.Sub.cons (Own.Sub.refl _))) (z := vs.length.toInt32) rfl ?_
  refine Own.W.iloadN (pc := 21) d36_21 rfl ?_
  refine Own.W.isub (pc := 22) d36_22 (z := vs.length.toInt32) (Int32.sub_zero _) ?_
  refine Own.W.iloadN (pc := 23) d36_23 rfl ?_
  refine Own.W.callS (pc := 24) (ct_min G hw vs.length n (by omega) (by omega)) d36_24 (hw _ (List.mem_of_getElem? (i := 158) rfl)) (hw _ (List.mem_of_getElem? (i := 159) rfl)) (hw _ (List.mem_of_getElem? (i := 150) rfl)) (hw _ (List.mem_of_getElem? (i := 160) rfl)) (by decide) pd_84293393 rfl rfl (Nat.le_of_ble_eq_true rfl) (Nat.le_of_ble_eq_true rfl) (Nat.le_of_ble_eq_true rfl) (by first | exact Nat.le_of_ble_eq_true rfl | (simp; done) | (simp; omega)) ?_
  rintro _ _ _ ⟨rfl, rfl, rfl⟩
  refine Own.W.acopy (pc := 27) (us := List.replicate n (Value.int 0)) d36_27 (hw _ (List.mem_of_getElem? (i := 161) rfl)) (hw _ (List.mem_of_getElem? (i := 129) rfl)) (hw _ (List.mem_of_getElem? (i := 127) rfl)) (hw _ (List.mem_of_getElem? (i := 128) rfl)) (hm.sub (Own.Sub.cons (Own.Sub.refl _))) rfl (by decide) (by decide) (Own.n_nn (by omega)) (i := 0) rfl (j := 0) rfl (n := n) (by rw [Own.n_clamp (by omega)]; omega) (by omega) (by simp) (us' := vs.take n) (by simp) (by repeat (first | exact Own.Upd.head | exact Own.Upd.mid | apply Own.Upd.tail)) (Nat.le_of_ble_eq_true rfl) (Nat.le_of_ble_eq_true rfl) ?_
  refine Own.W.aload (pc := 30) d36_30 rfl rfl ?_
  refine Own.W.aret (pc := 32) d36_32 rfl rfl rfl ?_ (by first | exact Nat.le_of_ble_eq_true rfl | (simp; done) | (simp; omega)) (by first | exact Nat.le_of_ble_eq_true rfl | (simp; done) | (simp; omega))
  exact ⟨_, rfl, rfl, rfl⟩
theorem d35_0 : decode jdk_65_method_132_code 0 = .ok (.iload_n 1, 1) := by decide +kernel
theorem d35_1 : decode jdk_65_method_132_code 1 = .ok (.ifCond .ne 9, 3) := by decide +kernel
theorem d35_4 : decode jdk_65_method_132_code 4 = .ok (.iload_n 2, 1) := by decide +kernel
theorem d35_5 : decode jdk_65_method_132_code 5 = .ok (.aload_n 0, 1) := by decide +kernel
theorem d35_6 : decode jdk_65_method_132_code 6 = .ok (.arraylength, 1) := by decide +kernel
theorem d35_7 : decode jdk_65_method_132_code 7 = .ok (.if_icmp .eq 10, 3) := by decide +kernel
theorem d35_10 : decode jdk_65_method_132_code 10 = .ok (.aload_n 0, 1) := by decide +kernel
theorem d35_11 : decode jdk_65_method_132_code 11 = .ok (.iload_n 1, 1) := by decide +kernel
theorem d35_12 : decode jdk_65_method_132_code 12 = .ok (.iload_n 2, 1) := by decide +kernel
theorem d35_13 : decode jdk_65_method_132_code 13 = .ok (.invokestatic 339, 3) := by decide +kernel
theorem pd_47730210 : parseMethodDescriptor "([BII)[B" = some ⟨[(.array .byte), .int, .int], some (.array .byte)⟩ := by decide +kernel
theorem d35_16 : decode jdk_65_method_132_code 16 = .ok (.areturn, 1) := by decide +kernel
theorem pn_89026999 : plainFor (⟨"java/util/Arrays", "copyOfRange", "([BII)[B"⟩ : MethodName) = true := by first | exact plainFor_of_name (by first | (simp [plainName, overriddenIn]; done) | decide +kernel) | decide +kernel
set_option maxRecDepth 65536 in
set_option maxHeartbeats 4000000 in
theorem ct_cor (G : Own.Gx) (hw : ∀ d ∈ tables_1, d.before G.a0 G.Z = true) {As : List Own.Ent} {Li : List Own.LitE} (b : Addr) (vs : List Value) (n N : Nat) (hv : n < vs.length) (hv31 : vs.length < 2147483648) (hn : n ≤ N) (hN : N ≤ 4000) (hm : Own.AVin G As b .byte vs) :
    Own.Ct G [] (⟨"java/util/Arrays", "copyOfRange", "([BII)[B"⟩ : MethodName) jdk_65_method_132_code 3 (some (.array .byte)) ({ frames := 2, cells := 1, slots := N, locals := 34 } : Room) [.ref b, .int 0, .int n.toInt32] As Li (fun v A L => ∃ o, v = some (.ref o) ∧ A = (o, true, Own.arr .byte (vs.take n)) :: As ∧ Li = L) := by
  refine Own.Ct.intro pn_89026999 (Ls := [.val (.ref b), .val (.int 0), .val (.int n.toInt32)]) rfl rfl ?_
  intro K
  refine Own.W.iloadN (pc := 0) d35_0 rfl ?_
  refine Own.W.if_ne (pc := 1) 10 d35_1 (by decide) (by decide) (fun h1 => absurd h1 (fun q => q rfl)) ?_
  intro h1
  refine Own.W.iloadN (pc := 4) d35_4 rfl ?_
  refine Own.W.aloadN (pc := 5) d35_5 rfl rfl ?_
  refine Own.W.alen (pc := 6) d35_6 hm (z := vs.length.toInt32) rfl ?_
  refine Own.W.ic_eq (pc := 7) 17 d35_7 (by decide) (by decide) (fun h7 => absurd h7 (Own.n_ne (by omega) (by omega) (by omega))) ?_
  intro h7
  refine Own.W.aloadN (pc := 10) d35_10 rfl rfl ?_
  refine Own.W.iloadN (pc := 11) d35_11 rfl ?_
  refine Own.W.iloadN (pc := 12) d35_12 rfl ?_
  refine Own.W.callS (pc := 13) (ct_crb G hw b vs n N hv hv31 hn hN hm) d35_13 (hw _ (List.mem_of_getElem? (i := 195) rfl)) (hw _ (List.mem_of_getElem? (i := 196) rfl)) (hw _ (List.mem_of_getElem? (i := 156) rfl)) (hw _ (List.mem_of_getElem? (i := 197) rfl)) (by decide) pd_47730210 rfl rfl (Nat.le_of_ble_eq_true rfl) (Nat.le_of_ble_eq_true rfl) (Nat.le_of_ble_eq_true rfl) (by first | exact Nat.le_of_ble_eq_true rfl | (simp; done) | (simp; omega)) ?_
  rintro _ _ _ ⟨o, rfl, rfl, rfl⟩
  refine Own.W.aret (pc := 16) d35_16 rfl rfl rfl ?_ (by first | exact Nat.le_of_ble_eq_true rfl | (simp; done) | (simp; omega)) (by first | exact Nat.le_of_ble_eq_true rfl | (simp; done) | (simp; omega))
  exact ⟨_, rfl, rfl, rfl⟩
theorem d17_0 : decode jdk_42_method_152_code 0 = .ok (.getstatic 38, 3) := by decide +kernel
theorem d17_3 : decode jdk_42_method_152_code 3 = .ok (.ifCond .eq 10, 3) := by decide +kernel
theorem d17_6 : decode jdk_42_method_152_code 6 = .ok (.aload_n 0, 1) := by decide +kernel
theorem d17_7 : decode jdk_42_method_152_code 7 = .ok (.getfield 15, 3) := by decide +kernel
theorem d17_10 : decode jdk_42_method_152_code 10 = .ok (.goto 4, 3) := by decide +kernel
theorem d17_14 : decode jdk_42_method_152_code 14 = .ok (.ireturn, 1) := by decide +kernel
theorem pn_39421446 : plainFor (⟨"java/lang/String", "coder", "()B"⟩ : MethodName) = true := by first | exact plainFor_of_name (by first | (simp [plainName, overriddenIn]; done) | decide +kernel) | decide +kernel
set_option maxRecDepth 65536 in
set_option maxHeartbeats 4000000 in
theorem ct_coder (G : Own.Gx) (hw : ∀ d ∈ tables_1, d.before G.a0 G.Z = true) (hC : Own.CSt G) {As : List Own.Ent} {Li : List Own.LitE} (a : Addr) (vs : List Value) (z : Int32) (hz : narrow .byte (.int z) = .int z) (ha : Own.StrIn G As a vs z) :
    Own.Ct G [] (⟨"java/lang/String", "coder", "()B"⟩ : MethodName) jdk_42_method_152_code 1 (some .byte) ({ frames := 0, cells := 0, slots := 0, locals := 0 } : Room) [.ref a] As Li (fun v A L => v = some (.int z) ∧ As = A ∧ Li = L) := by
  refine Own.Ct.intro pn_39421446 (Ls := [.val (.ref a)]) rfl rfl ?_
  intro K
  obtain ⟨cz, hC1, hC2⟩ := hC
  obtain ⟨ab, a1, a2, a3, a4⟩ := ha
  refine Own.W.getS (pc := 0) (host := "") (Or.inl (hw _ (List.mem_of_getElem? (i := 14) rfl))) (Via.refl (O := "java/lang/String")) d17_0 hC1 ?_
  refine Own.W.if_eq (pc := 3) 13 d17_3 (by decide) (by decide) (fun h3 => absurd h3 hC2) ?_
  intro h3
  refine Own.W.aloadN (pc := 6) d17_6 rfl rfl ?_
  refine Own.W.getI (pc := 7) (host := "") (Or.inl (hw _ (List.mem_of_getElem? (i := 26) rfl))) (Via.refl (O := "java/lang/String")) d17_7 a3 ?_
  refine Own.W.goto (pc := 10) 14 d17_10 (by decide) (by decide) ?_
  refine Own.W.iret (pc := 14) d17_14 rfl (by simp) hz ?_ (Nat.le_of_ble_eq_true rfl) (Nat.le_of_ble_eq_true rfl)
  exact ⟨rfl, rfl, rfl⟩
theorem d16_0 : decode jdk_42_method_54_code 0 = .ok (.aload_n 0, 1) := by decide +kernel
theorem d16_1 : decode jdk_42_method_54_code 1 = .ok (.getfield 9, 3) := by decide +kernel
theorem d16_4 : decode jdk_42_method_54_code 4 = .ok (.arraylength, 1) := by decide +kernel
theorem d16_5 : decode jdk_42_method_54_code 5 = .ok (.aload_n 0, 1) := by decide +kernel
theorem d16_6 : decode jdk_42_method_54_code 6 = .ok (.invokevirtual 335, 3) := by decide +kernel
theorem pd_93421976 : parseMethodDescriptor "()B" = some ⟨[], some .byte⟩ := by decide +kernel
theorem d16_9 : decode jdk_42_method_54_code 9 = .ok (.ishr, 1) := by decide +kernel
theorem d16_10 : decode jdk_42_method_54_code 10 = .ok (.ireturn, 1) := by decide +kernel
theorem pn_17394242 : plainFor (⟨"java/lang/String", "length", "()I"⟩ : MethodName) = true := by first | exact plainFor_of_name (by first | (simp [plainName, overriddenIn]; done) | decide +kernel) | decide +kernel
set_option maxRecDepth 65536 in
set_option maxHeartbeats 4000000 in
theorem ct_slen (G : Own.Gx) (hw : ∀ d ∈ tables_1, d.before G.a0 G.Z = true) (hC : Own.CSt G) {As : List Own.Ent} {Li : List Own.LitE} (a : Addr) (vs : List Value) (n : Int32) (ha : Own.StrIn G As a vs 0) (hn : vs.length.toInt32 = n) :
    Own.Ct G [] (⟨"java/lang/String", "length", "()I"⟩ : MethodName) jdk_42_method_54_code 1 (some .int) ({ frames := 1, cells := 0, slots := 0, locals := 13 } : Room) [.ref a] As Li (fun v A L => v = some (.int n) ∧ As = A ∧ Li = L) := by
  refine Own.Ct.intro pn_17394242 (Ls := [.val (.ref a)]) rfl rfl ?_
  intro K
  obtain ⟨ab, a1, a2, a3, a4⟩ := id ha
  refine Own.W.aloadN (pc := 0) d16_0 rfl rfl ?_
  refine Own.W.getI (pc := 1) (host := "") (Or.inl (hw _ (List.mem_of_getElem? (i := 28) rfl))) (Via.refl (O := "java/lang/String")) d16_1 a2 ?_
  refine Own.W.alen (pc := 4) d16_4 a4 hn ?_
  refine Own.W.aloadN (pc := 5) d16_5 rfl rfl ?_
  refine Own.W.callV (pc := 6) (ct_coder G hw hC a vs 0 rfl ha) d16_6 (C := "java/lang/String") ha.is (hw _ (List.mem_of_getElem? (i := 98) rfl)) (hw _ (List.mem_of_getElem? (i := 99) rfl)) (Own.nf_sel (hw _ (List.mem_of_getElem? (i := 101) rfl))) (hw _ (List.mem_of_getElem? (i := 101) rfl)) (hw _ (List.mem_of_getElem? (i := 100) rfl)) (hw _ (List.mem_of_getElem? (i := 3) rfl)) (hw _ (List.mem_of_getElem? (i := 102) rfl)) (by decide) pd_93421976 rfl rfl (Nat.le_of_ble_eq_true rfl) (Nat.le_of_ble_eq_true rfl) (Nat.le_of_ble_eq_true rfl) (Nat.le_of_ble_eq_true rfl) ?_
  rintro _ _ _ ⟨rfl, rfl, rfl⟩
  refine Own.W.ishr (pc := 9) d16_9 (z := n) (by rw [show ((0 : Int32) &&& 31) = 0 from by decide]; exact Own.shr0 n) ?_
  refine Own.W.iret (pc := 10) d16_10 rfl (by simp) rfl ?_ (Nat.le_of_ble_eq_true rfl) (Nat.le_of_ble_eq_true rfl)
  exact ⟨rfl, rfl, rfl⟩
def F_java_lang_StringBuilder : List Own.Fd := [("java/lang/AbstractStringBuilder", "value", "[B"), ("java/lang/AbstractStringBuilder", "coder", "B"), ("java/lang/AbstractStringBuilder", "count", "I")]
theorem LF_java_lang_StringBuilder (G : Own.Gx) (hw : ∀ d ∈ tables_1, d.before G.a0 G.Z = true) : Own.LaidAll G.Z G.a0 "java/lang/StringBuilder" F_java_lang_StringBuilder := ⟨by decide, Own.LaidAll.cons (Or.inl (hw _ (List.mem_of_getElem? (i := 79) rfl))) (t := (.array .byte)) (by decide) (Own.LaidAll.cons (Or.inl (hw _ (List.mem_of_getElem? (i := 81) rfl))) (t := .byte) (by decide) (Own.LaidAll.cons (Or.inl (hw _ (List.mem_of_getElem? (i := 104) rfl))) (t := .int) (by decide) (Own.LaidAll.nil)))⟩
theorem d13_0 : decode jdk_68_method_2_code 0 = .ok (.aload_n 0, 1) := by decide +kernel
theorem d13_1 : decode jdk_68_method_2_code 1 = .ok (.invokespecial 3, 3) := by decide +kernel
theorem d13_4 : decode jdk_68_method_2_code 4 = .ok (.getstatic 18, 3) := by decide +kernel
theorem d13_7 : decode jdk_68_method_2_code 7 = .ok (.ifCond .eq 18, 3) := by decide +kernel
theorem d13_10 : decode jdk_68_method_2_code 10 = .ok (.aload_n 0, 1) := by decide +kernel
theorem d13_11 : decode jdk_68_method_2_code 11 = .ok (.iload_n 1, 1) := by decide +kernel
theorem d13_12 : decode jdk_68_method_2_code 12 = .ok (.newarray .byte, 2) := by decide +kernel
theorem d13_14 : decode jdk_68_method_2_code 14 = .ok (.putfield 15, 3) := by decide +kernel
theorem d13_17 : decode jdk_68_method_2_code 17 = .ok (.aload_n 0, 1) := by decide +kernel
theorem d13_18 : decode jdk_68_method_2_code 18 = .ok (.iconst 0, 1) := by decide +kernel
theorem d13_19 : decode jdk_68_method_2_code 19 = .ok (.putfield 22, 3) := by decide +kernel
theorem d13_22 : decode jdk_68_method_2_code 22 = .ok (.goto 16, 3) := by decide +kernel
theorem d13_38 : decode jdk_68_method_2_code 38 = .ok (.return_, 1) := by decide +kernel
theorem pn_97596319 : plainFor (⟨"java/lang/AbstractStringBuilder", "<init>", "(I)V"⟩ : MethodName) = true := by first | exact plainFor_of_name (by first | (simp [plainName, overriddenIn]; done) | decide +kernel) | decide +kernel
set_option maxRecDepth 65536 in
set_option maxHeartbeats 4000000 in
theorem ct_asbi (G : Own.Gx) (hw : ∀ d ∈ tables_1, d.before G.a0 G.Z = true) (hC : Own.CSt G) {As : List Own.Ent} {Li : List Own.LitE} (o : Addr) :
    Own.Ct G [] (⟨"java/lang/AbstractStringBuilder", "<init>", "(I)V"⟩ : MethodName) jdk_68_method_2_code 2 none ({ frames := 1, cells := 1, slots := 16, locals := 12 } : Room) [.ref o, .int 16] ((o, true, Own.obj "java/lang/StringBuilder" F_java_lang_StringBuilder [.null, .int 0, .int 0]) :: As) Li (fun v A L => ∃ b, v = none ∧ A = (o, true, Own.obj "java/lang/StringBuilder" F_java_lang_StringBuilder [.ref b, .int 0, .int ([] : List Int32).length.toInt32]) :: (b, true, Own.arr .byte (Own.pad [] 16)) :: As ∧ Li = L) := by
  refine Own.Ct.intro pn_97596319 (Ls := [.val (.ref o), .val (.int 16)]) rfl rfl ?_
  intro K
  obtain ⟨cz, hC1, hC2⟩ := hC
  refine Own.W.aloadN (pc := 0) d13_0 rfl rfl ?_
  refine Own.W.callO (pc := 1) d13_1 (hw _ (List.mem_of_getElem? (i := 76) rfl)) (hw _ (List.mem_of_getElem? (i := 12) rfl)) (hw _ (List.mem_of_getElem? (i := 13) rfl)) (Nat.le_of_ble_eq_true rfl) (Nat.le_of_ble_eq_true rfl) ?_
  refine Own.W.getS (pc := 4) (host := "") (Or.inl (hw _ (List.mem_of_getElem? (i := 77) rfl))) (Via.refl (O := "java/lang/String")) d13_4 hC1 ?_
  refine Own.W.if_eq (pc := 7) 25 d13_7 (by decide) (by decide) (fun h7 => absurd h7 hC2) ?_
  intro h7
  refine Own.W.aloadN (pc := 10) d13_10 rfl rfl ?_
  refine Own.W.iloadN (pc := 11) d13_11 rfl ?_
  refine Own.W.newP (pc := 12) 16 (hw _ (List.mem_of_getElem? (i := 19) rfl)) d13_12 rfl (by decide) (Nat.le_of_ble_eq_true rfl) (by decide) (vs := (List.replicate 16 (Value.int 0))) rfl (Nat.le_of_ble_eq_true rfl) (Nat.le_of_ble_eq_true rfl) ?_
  intro o12
  refine Own.W.putF (pc := 14) (host := "") (Or.inl (hw _ (List.mem_of_getElem? (i := 78) rfl))) (Via.refl (O := "java/lang/AbstractStringBuilder")) d13_14 (Or.inl (hw _ (List.mem_of_getElem? (i := 79) rfl))) (hw _ (List.mem_of_getElem? (i := 65) rfl)) (ty := (.array .byte)) (by decide) rfl rfl (by repeat (first | exact Own.Upd.head | exact Own.Upd.mid | apply Own.Upd.tail)) (by repeat (first | exact Own.FUp.head | apply Own.FUp.tail)) ?_
  refine Own.W.aloadN (pc := 17) d13_17 rfl rfl ?_
  refine Own.W.iconst (pc := 18) (z := (0 : Int32)) d13_18 (by decide) ?_
  refine Own.W.putN (pc := 19) (hw _ (List.mem_of_getElem? (i := 80) rfl)) (Via.refl (O := "java/lang/AbstractStringBuilder")) d13_19 (Or.inl (hw _ (List.mem_of_getElem? (i := 81) rfl))) (hw _ (List.mem_of_getElem? (i := 65) rfl)) (ty := .byte) (by decide) rfl (by first | rfl | decide) (by repeat (first | exact Own.Upd.head | exact Own.Upd.mid | apply Own.Upd.tail)) (by repeat (first | exact Own.FUp.head | apply Own.FUp.tail)) ?_
  refine Own.W.goto (pc := 22) 38 d13_22 (by decide) (by decide) ?_
  refine Own.W.perm ?_ (List.Perm.swap _ _ _)
  refine Own.W.vret (pc := 38) d13_38 rfl  ?_ (Nat.le_of_ble_eq_true rfl) (Nat.le_of_ble_eq_true rfl)
  exact ⟨_, rfl, rfl, rfl⟩
theorem d12_0 : decode jdk_67_method_1_code 0 = .ok (.aload_n 0, 1) := by decide +kernel
theorem d12_1 : decode jdk_67_method_1_code 1 = .ok (.bipush 16, 2) := by decide +kernel
theorem d12_3 : decode jdk_67_method_1_code 3 = .ok (.invokespecial 1, 3) := by decide +kernel
theorem pd_87992021 : parseMethodDescriptor "(I)V" = some ⟨[.int], none⟩ := by decide +kernel
theorem d12_6 : decode jdk_67_method_1_code 6 = .ok (.return_, 1) := by decide +kernel
theorem pn_53695586 : plainFor (⟨"java/lang/StringBuilder", "<init>", "()V"⟩ : MethodName) = true := by first | exact plainFor_of_name (by first | (simp [plainName, overriddenIn]; done) | decide +kernel) | decide +kernel
set_option maxRecDepth 65536 in
set_option maxHeartbeats 4000000 in
theorem ct_sbi (G : Own.Gx) (hw : ∀ d ∈ tables_1, d.before G.a0 G.Z = true) (hC : Own.CSt G) {As : List Own.Ent} {Li : List Own.LitE} (o : Addr) :
    Own.Ct G [] (⟨"java/lang/StringBuilder", "<init>", "()V"⟩ : MethodName) jdk_67_method_1_code 1 none ({ frames := 2, cells := 1, slots := 16, locals := 25 } : Room) [.ref o] ((o, true, Own.obj "java/lang/StringBuilder" F_java_lang_StringBuilder [.null, .int 0, .int 0]) :: As) Li (fun v A L => ∃ b, v = none ∧ A = (o, true, Own.obj "java/lang/StringBuilder" F_java_lang_StringBuilder [.ref b, .int 0, .int ([] : List Int32).length.toInt32]) :: (b, true, Own.arr .byte (Own.pad [] 16)) :: As ∧ Li = L) := by
  refine Own.Ct.intro pn_53695586 (Ls := [.val (.ref o)]) rfl rfl ?_
  intro K
  refine Own.W.aloadN (pc := 0) d12_0 rfl rfl ?_
  refine Own.W.bipush (pc := 1) (z := (16 : Int32)) d12_1 (by decide) ?_
  refine Own.W.callI (pc := 3) (ct_asbi G hw hC o) d12_3 rfl (hw _ (List.mem_of_getElem? (i := 70) rfl)) (hw _ (List.mem_of_getElem? (i := 71) rfl)) (hw _ (List.mem_of_getElem? (i := 74) rfl)) (hw _ (List.mem_of_getElem? (i := 75) rfl)) (by decide) pd_87992021 rfl rfl (Nat.le_of_ble_eq_true rfl) (Nat.le_of_ble_eq_true rfl) (Nat.le_of_ble_eq_true rfl) (Nat.le_of_ble_eq_true rfl) ?_
  rintro _ _ _ ⟨b, rfl, rfl, rfl⟩
  refine Own.W.vret (pc := 6) d12_6 rfl  ?_ (Nat.le_of_ble_eq_true rfl) (Nat.le_of_ble_eq_true rfl)
  exact ⟨_, rfl, rfl, rfl⟩
theorem d24_0 : decode jdk_48_method_27_code 0 = .ok (.iload_n 0, 1) := by decide +kernel
theorem d24_1 : decode jdk_48_method_27_code 1 = .ok (.iload_n 1, 1) := by decide +kernel
theorem d24_2 : decode jdk_48_method_27_code 2 = .ok (.iload_n 2, 1) := by decide +kernel
theorem d24_3 : decode jdk_48_method_27_code 3 = .ok (.invokestatic 194, 3) := by decide +kernel
theorem d24_6 : decode jdk_48_method_27_code 6 = .ok (.iadd, 1) := by decide +kernel
theorem d24_7 : decode jdk_48_method_27_code 7 = .ok (.istore_n 3, 1) := by decide +kernel
theorem d24_8 : decode jdk_48_method_27_code 8 = .ok (.iconst 0, 1) := by decide +kernel
theorem d24_9 : decode jdk_48_method_27_code 9 = .ok (.iload_n 3, 1) := by decide +kernel
theorem d24_10 : decode jdk_48_method_27_code 10 = .ok (.if_icmp .ge 11, 3) := by decide +kernel
theorem d24_13 : decode jdk_48_method_27_code 13 = .ok (.iload_n 3, 1) := by decide +kernel
theorem d24_14 : decode jdk_48_method_27_code 14 = .ok (.ldc 200, 2) := by decide +kernel
theorem d24_16 : decode jdk_48_method_27_code 16 = .ok (.if_icmp .gt 5, 3) := by decide +kernel
theorem d24_19 : decode jdk_48_method_27_code 19 = .ok (.iload_n 3, 1) := by decide +kernel
theorem d24_20 : decode jdk_48_method_27_code 20 = .ok (.ireturn, 1) := by decide +kernel
theorem pn_9506430 : plainFor (⟨"jdk/internal/util/ArraysSupport", "newLength", "(III)I"⟩ : MethodName) = true := by first | exact plainFor_of_name (by first | (simp [plainName, overriddenIn]; done) | decide +kernel) | decide +kernel
set_option maxRecDepth 65536 in
set_option maxHeartbeats 4000000 in
theorem ct_nln (G : Own.Gx) (hw : ∀ d ∈ tables_1, d.before G.a0 G.Z = true) {As : List Own.Ent} {Li : List Own.LitE} (p q r : Nat) (h0 : 0 < p + max q r) (hb : p + max q r ≤ 100000) :
    Own.Ct G [] (⟨"jdk/internal/util/ArraysSupport", "newLength", "(III)I"⟩ : MethodName) jdk_48_method_27_code 4 (some .int) ({ frames := 1, cells := 0, slots := 0, locals := 14 } : Room) [.int p.toInt32, .int q.toInt32, .int r.toInt32] As Li (fun v A L => v = some (.int (p + max q r).toInt32) ∧ As = A ∧ Li = L) := by
  refine Own.Ct.intro pn_9506430 (Ls := [.val (.int p.toInt32), .val (.int q.toInt32), .val (.int r.toInt32), .unset]) rfl rfl ?_
  intro K
  refine Own.W.iloadN (pc := 0) d24_0 rfl ?_
  refine Own.W.iloadN (pc := 1) d24_1 rfl ?_
  refine Own.W.iloadN (pc := 2) d24_2 rfl ?_
  refine Own.W.callS (pc := 3) (ct_max G hw q r (by omega) (by omega)) d24_3 (hw _ (List.mem_of_getElem? (i := 148) rfl)) (hw _ (List.mem_of_getElem? (i := 149) rfl)) (hw _ (List.mem_of_getElem? (i := 150) rfl)) (hw _ (List.mem_of_getElem? (i := 151) rfl)) (by decide) pd_84293393 rfl rfl (Nat.le_of_ble_eq_true rfl) (Nat.le_of_ble_eq_true rfl) (Nat.le_of_ble_eq_true rfl) (Nat.le_of_ble_eq_true rfl) ?_
  rintro _ _ _ ⟨rfl, rfl, rfl⟩
  refine Own.W.iadd (pc := 6) d24_6 (z := (p + max q r).toInt32) (Own.n_add _ _) ?_
  refine Own.W.istoreN (pc := 7) (Ls' := [_, _, _, _]) d24_7 rfl rfl ?_
  refine Own.W.iconst (pc := 8) (z := (0 : Int32)) d24_8 (by decide) ?_
  refine Own.W.iloadN (pc := 9) d24_9 rfl ?_
  refine Own.W.ic_ge (pc := 10) 21 d24_10 (by decide) (by decide) (fun h10 => absurd h10 (fun q => q (Own.n_pos h0 (by omega)))) ?_
  intro h10
  refine Own.W.iloadN (pc := 13) d24_13 rfl ?_
  refine Own.W.ldcI (pc := 14) (z := 2147483639) (hw _ (List.mem_of_getElem? (i := 152) rfl)) d24_14 ?_
  refine Own.W.ic_gt (pc := 16) 21 d24_16 (by decide) (by decide) (fun h16 => absurd h16 (Own.n_nlt (a := 2147483639) (by omega) (by decide))) ?_
  intro h16
  refine Own.W.iloadN (pc := 19) d24_19 rfl ?_
  refine Own.W.iret (pc := 20) d24_20 rfl (by simp) rfl ?_ (Nat.le_of_ble_eq_true rfl) (Nat.le_of_ble_eq_true rfl)
  exact ⟨rfl, rfl, rfl⟩
theorem d23_0 : decode jdk_68_method_10_code 0 = .ok (.aload_n 0, 1) := by decide +kernel
theorem d23_1 : decode jdk_68_method_10_code 1 = .ok (.getfield 15, 3) := by decide +kernel
theorem d23_4 : decode jdk_68_method_10_code 4 = .ok (.arraylength, 1) := by decide +kernel
theorem d23_5 : decode jdk_68_method_10_code 5 = .ok (.istore_n 2, 1) := by decide +kernel
theorem d23_6 : decode jdk_68_method_10_code 6 = .ok (.iload_n 1, 1) := by decide +kernel
theorem d23_7 : decode jdk_68_method_10_code 7 = .ok (.aload_n 0, 1) := by decide +kernel
theorem d23_8 : decode jdk_68_method_10_code 8 = .ok (.getfield 22, 3) := by decide +kernel
theorem d23_11 : decode jdk_68_method_10_code 11 = .ok (.ishl, 1) := by decide +kernel
theorem d23_12 : decode jdk_68_method_10_code 12 = .ok (.istore_n 3, 1) := by decide +kernel
theorem d23_13 : decode jdk_68_method_10_code 13 = .ok (.iload_n 3, 1) := by decide +kernel
theorem d23_14 : decode jdk_68_method_10_code 14 = .ok (.iload_n 2, 1) := by decide +kernel
theorem d23_15 : decode jdk_68_method_10_code 15 = .ok (.isub, 1) := by decide +kernel
theorem d23_16 : decode jdk_68_method_10_code 16 = .ok (.istore 4, 2) := by decide +kernel
theorem d23_18 : decode jdk_68_method_10_code 18 = .ok (.iload_n 2, 1) := by decide +kernel
theorem d23_19 : decode jdk_68_method_10_code 19 = .ok (.iload 4, 2) := by decide +kernel
theorem d23_21 : decode jdk_68_method_10_code 21 = .ok (.iload_n 2, 1) := by decide +kernel
theorem d23_22 : decode jdk_68_method_10_code 22 = .ok (.iconst 2, 1) := by decide +kernel
theorem d23_23 : decode jdk_68_method_10_code 23 = .ok (.aload_n 0, 1) := by decide +kernel
theorem d23_24 : decode jdk_68_method_10_code 24 = .ok (.getfield 22, 3) := by decide +kernel
theorem d23_27 : decode jdk_68_method_10_code 27 = .ok (.ishl, 1) := by decide +kernel
theorem d23_28 : decode jdk_68_method_10_code 28 = .ok (.iadd, 1) := by decide +kernel
theorem d23_29 : decode jdk_68_method_10_code 29 = .ok (.invokestatic 114, 3) := by decide +kernel
theorem pd_86748538 : parseMethodDescriptor "(III)I" = some ⟨[.int, .int, .int], some .int⟩ := by decide +kernel
theorem d23_32 : decode jdk_68_method_10_code 32 = .ok (.istore 5, 2) := by decide +kernel
theorem d23_34 : decode jdk_68_method_10_code 34 = .ok (.iload 5, 2) := by decide +kernel
theorem d23_36 : decode jdk_68_method_10_code 36 = .ok (.ldc 39, 2) := by decide +kernel
theorem d23_38 : decode jdk_68_method_10_code 38 = .ok (.if_icmp .ne 13, 3) := by decide +kernel
theorem d23_51 : decode jdk_68_method_10_code 51 = .ok (.iload 5, 2) := by decide +kernel
theorem d23_53 : decode jdk_68_method_10_code 53 = .ok (.aload_n 0, 1) := by decide +kernel
theorem d23_54 : decode jdk_68_method_10_code 54 = .ok (.getfield 22, 3) := by decide +kernel
theorem d23_57 : decode jdk_68_method_10_code 57 = .ok (.ishr, 1) := by decide +kernel
theorem d23_58 : decode jdk_68_method_10_code 58 = .ok (.ireturn, 1) := by decide +kernel
theorem pn_73406812 : plainFor (⟨"java/lang/AbstractStringBuilder", "newCapacity", "(I)I"⟩ : MethodName) = true := by first | exact plainFor_of_name (by first | (simp [plainName, overriddenIn]; done) | decide +kernel) | decide +kernel
set_option maxRecDepth 65536 in
set_option maxHeartbeats 4000000 in
theorem ct_ncp (G : Own.Gx) (hw : ∀ d ∈ tables_1, d.before G.a0 G.Z = true) {As : List Own.Ent} {Li : List Own.LitE} (o b : Addr) (xs : List Int32) (cap : Nat) (hxc : xs.length ≤ cap) (hcap : cap ≤ 4000) (mn : Nat) (hmn : mn ≤ 4000) (hgt : ¬ mn ≤ cap) :
    Own.Ct G [] (⟨"java/lang/AbstractStringBuilder", "newCapacity", "(I)I"⟩ : MethodName) jdk_68_method_10_code 6 (some .int) ({ frames := 2, cells := 0, slots := 0, locals := 29 } : Room) [.ref o, .int mn.toInt32] ((o, true, Own.obj "java/lang/StringBuilder" F_java_lang_StringBuilder [.ref b, .int 0, .int xs.length.toInt32]) :: (b, true, Own.arr .byte (Own.pad xs cap)) :: As) Li (fun v A L => v = some (.int (Own.grow cap mn).toInt32) ∧ A = ((o, true, Own.obj "java/lang/StringBuilder" F_java_lang_StringBuilder [.ref b, .int 0, .int xs.length.toInt32]) :: (b, true, Own.arr .byte (Own.pad xs cap)) :: As) ∧ Li = L) := by
  refine Own.Ct.intro pn_73406812 (Ls := [.val (.ref o), .val (.int mn.toInt32), .unset, .unset, .unset, .unset]) rfl rfl ?_
  intro K
  refine Own.W.aloadN (pc := 0) d23_0 rfl rfl ?_
  refine Own.W.getF (pc := 1) (host := "") (Or.inl (hw _ (List.mem_of_getElem? (i := 78) rfl))) (Via.refl (O := "java/lang/AbstractStringBuilder")) d23_1 (by repeat (first | exact List.Mem.head _ | assumption | exact List.mem_append_right _ (List.Mem.head _) | apply List.Mem.tail)) (by repeat (first | exact Own.FAt.head | apply Own.FAt.tail)) ?_
  refine Own.W.alen (pc := 4) d23_4 (Own.AVin.mem (List.Mem.tail _ (List.Mem.head _))) (z := cap.toInt32) (by rw [Own.pad_len hxc]) ?_
  refine Own.W.istoreN (pc := 5) (Ls' := [_, _, _, _, _, _]) d23_5 rfl rfl ?_
  refine Own.W.iloadN (pc := 6) d23_6 rfl ?_
  refine Own.W.aloadN (pc := 7) d23_7 rfl rfl ?_
  refine Own.W.getF (pc := 8) (host := "") (Or.inl (hw _ (List.mem_of_getElem? (i := 80) rfl))) (Via.refl (O := "java/lang/AbstractStringBuilder")) d23_8 (by repeat (first | exact List.Mem.head _ | assumption | exact List.mem_append_right _ (List.Mem.head _) | apply List.Mem.tail)) (by repeat (first | exact Own.FAt.head | apply Own.FAt.tail)) ?_
  refine Own.W.ishl (pc := 11) d23_11 (z := mn.toInt32) (Own.shl0 _) ?_
  refine Own.W.istoreN (pc := 12) (Ls' := [_, _, _, _, _, _]) d23_12 rfl rfl ?_
  refine Own.W.iloadN (pc := 13) d23_13 rfl ?_
  refine Own.W.iloadN (pc := 14) d23_14 rfl ?_
  refine Own.W.isub (pc := 15) d23_15 (z := (mn - cap).toInt32) (Own.n_sub (by omega)) ?_
  refine Own.W.istore (pc := 16) (Ls' := [_, _, _, _, _, _]) d23_16 rfl rfl ?_
  refine Own.W.iloadN (pc := 18) d23_18 rfl ?_
  refine Own.W.iload (pc := 19) d23_19 rfl ?_
  refine Own.W.iloadN (pc := 21) d23_21 rfl ?_
  refine Own.W.iconst (pc := 22) (z := (2 : Int32)) d23_22 (by decide) ?_
  refine Own.W.aloadN (pc := 23) d23_23 rfl rfl ?_
  refine Own.W.getF (pc := 24) (host := "") (Or.inl (hw _ (List.mem_of_getElem? (i := 80) rfl))) (Via.refl (O := "java/lang/AbstractStringBuilder")) d23_24 (by repeat (first | exact List.Mem.head _ | assumption | exact List.mem_append_right _ (List.Mem.head _) | apply List.Mem.tail)) (by repeat (first | exact Own.FAt.head | apply Own.FAt.tail)) ?_
  refine Own.W.ishl (pc := 27) d23_27 (z := 2) (Own.shl0 _) ?_
  refine Own.W.iadd (pc := 28) d23_28 (z := (cap + 2).toInt32) (Own.n_add cap 2) ?_
  refine Own.W.callS (pc := 29) (ct_nln G hw cap (mn - cap) (cap + 2) (by omega) (by omega)) d23_29 (hw _ (List.mem_of_getElem? (i := 144) rfl)) (hw _ (List.mem_of_getElem? (i := 145) rfl)) (hw _ (List.mem_of_getElem? (i := 146) rfl)) (hw _ (List.mem_of_getElem? (i := 147) rfl)) (by decide) pd_86748538 rfl rfl (Nat.le_of_ble_eq_true rfl) (Nat.le_of_ble_eq_true rfl) (Nat.le_of_ble_eq_true rfl) (Nat.le_of_ble_eq_true rfl) ?_
  rintro _ _ _ ⟨rfl, rfl, rfl⟩
  refine Own.W.istore (pc := 32) (Ls' := [_, _, _, _, _, _]) d23_32 rfl rfl ?_
  refine Own.W.iload (pc := 34) d23_34 rfl ?_
  refine Own.W.ldcI (pc := 36) (z := 2147483647) (hw _ (List.mem_of_getElem? (i := 153) rfl)) d23_36 ?_
  refine Own.W.ic_ne (pc := 38) 51 d23_38 (by decide) (by decide) ?_ (fun h38 => absurd h38 (Own.n_ne (b := 2147483647) (by omega) (by omega) (by decide)))
  intro h38
  refine Own.W.iload (pc := 51) d23_51 rfl ?_
  refine Own.W.aloadN (pc := 53) d23_53 rfl rfl ?_
  refine Own.W.getF (pc := 54) (host := "") (Or.inl (hw _ (List.mem_of_getElem? (i := 80) rfl))) (Via.refl (O := "java/lang/AbstractStringBuilder")) d23_54 (by repeat (first | exact List.Mem.head _ | assumption | exact List.mem_append_right _ (List.Mem.head _) | apply List.Mem.tail)) (by repeat (first | exact Own.FAt.head | apply Own.FAt.tail)) ?_
  refine Own.W.ishr (pc := 57) d23_57 (z := (cap + max (mn - cap) (cap + 2)).toInt32) (Own.shr0' _) ?_
  refine Own.W.iret (pc := 58) d23_58 rfl (by simp) rfl ?_ (Nat.le_of_ble_eq_true rfl) (Nat.le_of_ble_eq_true rfl)
  exact ⟨by rw [Own.grow_gt hgt], rfl, rfl⟩
theorem d18_0 : decode jdk_68_method_9_code 0 = .ok (.aload_n 0, 1) := by decide +kernel
theorem d18_1 : decode jdk_68_method_9_code 1 = .ok (.getfield 15, 3) := by decide +kernel
theorem d18_4 : decode jdk_68_method_9_code 4 = .ok (.arraylength, 1) := by decide +kernel
theorem d18_5 : decode jdk_68_method_9_code 5 = .ok (.aload_n 0, 1) := by decide +kernel
theorem d18_6 : decode jdk_68_method_9_code 6 = .ok (.getfield 22, 3) := by decide +kernel
theorem d18_9 : decode jdk_68_method_9_code 9 = .ok (.ishr, 1) := by decide +kernel
theorem d18_10 : decode jdk_68_method_9_code 10 = .ok (.istore_n 2, 1) := by decide +kernel
theorem d18_11 : decode jdk_68_method_9_code 11 = .ok (.iload_n 1, 1) := by decide +kernel
theorem d18_12 : decode jdk_68_method_9_code 12 = .ok (.iload_n 2, 1) := by decide +kernel
theorem d18_13 : decode jdk_68_method_9_code 13 = .ok (.isub, 1) := by decide +kernel
theorem d18_14 : decode jdk_68_method_9_code 14 = .ok (.ifCond .le 24, 3) := by decide +kernel
theorem d18_38 : decode jdk_68_method_9_code 38 = .ok (.return_, 1) := by decide +kernel
theorem d18_17 : decode jdk_68_method_9_code 17 = .ok (.aload_n 0, 1) := by decide +kernel
theorem d18_18 : decode jdk_68_method_9_code 18 = .ok (.aload_n 0, 1) := by decide +kernel
theorem d18_19 : decode jdk_68_method_9_code 19 = .ok (.getfield 15, 3) := by decide +kernel
theorem d18_22 : decode jdk_68_method_9_code 22 = .ok (.aload_n 0, 1) := by decide +kernel
theorem d18_23 : decode jdk_68_method_9_code 23 = .ok (.iload_n 1, 1) := by decide +kernel
theorem d18_24 : decode jdk_68_method_9_code 24 = .ok (.invokevirtual 104, 3) := by decide +kernel
theorem pd_87992008 : parseMethodDescriptor "(I)I" = some ⟨[.int], some .int⟩ := by decide +kernel
theorem d18_27 : decode jdk_68_method_9_code 27 = .ok (.aload_n 0, 1) := by decide +kernel
theorem d18_28 : decode jdk_68_method_9_code 28 = .ok (.getfield 22, 3) := by decide +kernel
theorem d18_31 : decode jdk_68_method_9_code 31 = .ok (.ishl, 1) := by decide +kernel
theorem d18_32 : decode jdk_68_method_9_code 32 = .ok (.invokestatic 108, 3) := by decide +kernel
theorem pd_24263193 : parseMethodDescriptor "([BI)[B" = some ⟨[(.array .byte), .int], some (.array .byte)⟩ := by decide +kernel
theorem d18_35 : decode jdk_68_method_9_code 35 = .ok (.putfield 15, 3) := by decide +kernel
theorem pn_20301582 : plainFor (⟨"java/lang/AbstractStringBuilder", "ensureCapacityInternal", "(I)V"⟩ : MethodName) = true := by first | exact plainFor_of_name (by first | (simp [plainName, overriddenIn]; done) | decide +kernel) | decide +kernel
set_option maxRecDepth 65536 in
set_option maxHeartbeats 4000000 in
theorem ct_eci (G : Own.Gx) (hw : ∀ d ∈ tables_1, d.before G.a0 G.Z = true) {As : List Own.Ent} {Li : List Own.LitE} (o b : Addr) (xs : List Int32) (cap : Nat) (hxc : xs.length ≤ cap) (hcap : cap ≤ 4000) (mn N : Nat) (hmn : mn ≤ 4000) (hN : Own.grow cap mn ≤ N) (hN4 : N ≤ 4000) :
    Own.Ct G [] (⟨"java/lang/AbstractStringBuilder", "ensureCapacityInternal", "(I)V"⟩ : MethodName) jdk_68_method_9_code 3 none ({ frames := 3, cells := 1, slots := N, locals := 48 } : Room) [.ref o, .int mn.toInt32] ((o, true, Own.obj "java/lang/StringBuilder" F_java_lang_StringBuilder [.ref b, .int 0, .int xs.length.toInt32]) :: (b, true, Own.arr .byte (Own.pad xs cap)) :: As) Li (fun v A L => ∃ b2 A0, v = none ∧ A = ((o, true, Own.obj "java/lang/StringBuilder" F_java_lang_StringBuilder [.ref b2, .int 0, .int xs.length.toInt32]) :: (b2, true, Own.arr .byte (Own.pad xs (Own.grow cap mn))) :: A0) ∧ Own.Sub As A0 ∧ Li = L) := by
  refine Own.Ct.intro pn_20301582 (Ls := [.val (.ref o), .val (.int mn.toInt32), .unset]) rfl rfl ?_
  intro K
  refine Own.W.aloadN (pc := 0) d18_0 rfl rfl ?_
  refine Own.W.getF (pc := 1) (host := "") (Or.inl (hw _ (List.mem_of_getElem? (i := 78) rfl))) (Via.refl (O := "java/lang/AbstractStringBuilder")) d18_1 (by repeat (first | exact List.Mem.head _ | assumption | exact List.mem_append_right _ (List.Mem.head _) | apply List.Mem.tail)) (by repeat (first | exact Own.FAt.head | apply Own.FAt.tail)) ?_
  refine Own.W.alen (pc := 4) d18_4 (Own.AVin.mem (List.Mem.tail _ (List.Mem.head _))) (z := cap.toInt32) (by rw [Own.pad_len hxc]) ?_
  refine Own.W.aloadN (pc := 5) d18_5 rfl rfl ?_
  refine Own.W.getF (pc := 6) (host := "") (Or.inl (hw _ (List.mem_of_getElem? (i := 80) rfl))) (Via.refl (O := "java/lang/AbstractStringBuilder")) d18_6 (by repeat (first | exact List.Mem.head _ | assumption | exact List.mem_append_right _ (List.Mem.head _) | apply List.Mem.tail)) (by repeat (first | exact Own.FAt.head | apply Own.FAt.tail)) ?_
  refine Own.W.ishr (pc := 9) d18_9 (z := cap.toInt32) (Own.shr0' _) ?_
  refine Own.W.istoreN (pc := 10) (Ls' := [_, _, _]) d18_10 rfl rfl ?_
  refine Own.W.iloadN (pc := 11) d18_11 rfl ?_
  refine Own.W.iloadN (pc := 12) d18_12 rfl ?_
  by_cases hg : mn ≤ cap
  · refine Own.W.isub (pc := 13) d18_13 rfl ?_
    refine Own.W.if_le (pc := 14) 38 d18_14 (by decide) (by decide) ?_ (fun h14 => absurd h14 (Own.n_subnp hg (by omega)))
    intro h14
    refine Own.W.vret (pc := 38) d18_38 rfl  ?_ (by first | exact Nat.le_of_ble_eq_true rfl | (simp; done) | (simp; omega)) (by first | exact Nat.le_of_ble_eq_true rfl | (simp; done) | (simp; omega))
    exact ⟨b, As, rfl, by rw [Own.grow_le hg], Own.Sub.refl _, rfl⟩
  · have hgr := Own.grow_gt hg
    refine Own.W.isub (pc := 13) d18_13 (z := (mn - cap).toInt32) (Own.n_sub (by omega)) ?_
    refine Own.W.if_le (pc := 14) 38 d18_14 (by decide) (by decide) (fun h14 => absurd h14 (fun q => q (Own.n_pos (by omega) (by omega)))) ?_
    intro h14
    refine Own.W.aloadN (pc := 17) d18_17 rfl rfl ?_
    refine Own.W.aloadN (pc := 18) d18_18 rfl rfl ?_
    refine Own.W.getF (pc := 19) (host := "") (Or.inl (hw _ (List.mem_of_getElem? (i := 78) rfl))) (Via.refl (O := "java/lang/AbstractStringBuilder")) d18_19 (by repeat (first | exact List.Mem.head _ | assumption | exact List.mem_append_right _ (List.Mem.head _) | apply List.Mem.tail)) (by repeat (first | exact Own.FAt.head | apply Own.FAt.tail)) ?_
    refine Own.W.aloadN (pc := 22) d18_22 rfl rfl ?_
    refine Own.W.iloadN (pc := 23) d18_23 rfl ?_
    refine Own.W.callV (pc := 24) (ct_ncp G hw o b xs cap hxc hcap mn hmn hg) d18_24 (C := "java/lang/StringBuilder") (Own.Is.mem (List.Mem.head _)) (hw _ (List.mem_of_getElem? (i := 139) rfl)) (Own.decl_of (hw _ (List.mem_of_getElem? (i := 140) rfl)) (hw _ (List.mem_of_getElem? (i := 143) rfl))) (Own.nf_sel (hw _ (List.mem_of_getElem? (i := 142) rfl))) (hw _ (List.mem_of_getElem? (i := 142) rfl)) (hw _ (List.mem_of_getElem? (i := 140) rfl)) (hw _ (List.mem_of_getElem? (i := 74) rfl)) (hw _ (List.mem_of_getElem? (i := 143) rfl)) (by decide) pd_87992008 rfl rfl (Nat.le_of_ble_eq_true rfl) (Nat.le_of_ble_eq_true rfl) (Nat.le_of_ble_eq_true rfl) (by first | exact Nat.le_of_ble_eq_true rfl | (simp; done) | (simp; omega)) ?_
    rintro _ _ _ ⟨rfl, rfl, rfl⟩
    refine Own.W.aloadN (pc := 27) d18_27 rfl rfl ?_
    refine Own.W.getF (pc := 28) (host := "") (Or.inl (hw _ (List.mem_of_getElem? (i := 80) rfl))) (Via.refl (O := "java/lang/AbstractStringBuilder")) d18_28 (by repeat (first | exact List.Mem.head _ | assumption | exact List.mem_append_right _ (List.Mem.head _) | apply List.Mem.tail)) (by repeat (first | exact Own.FAt.head | apply Own.FAt.tail)) ?_
    refine Own.W.ishl (pc := 31) d18_31 (z := (Own.grow cap mn).toInt32) (Own.shl0 _) ?_
    refine Own.W.callS (pc := 32) (ct_cpy G hw b _ (Own.grow cap mn) N (by rw [Own.pad_len hxc]; omega) hN hN4 (Own.AVin.mem (List.Mem.tail _ (List.Mem.head _)))) d18_32 (hw _ (List.mem_of_getElem? (i := 154) rfl)) (hw _ (List.mem_of_getElem? (i := 155) rfl)) (hw _ (List.mem_of_getElem? (i := 156) rfl)) (hw _ (List.mem_of_getElem? (i := 157) rfl)) (by decide) pd_24263193 rfl rfl (Nat.le_of_ble_eq_true rfl) (Nat.le_of_ble_eq_true rfl) (Nat.le_of_ble_eq_true rfl) (by first | exact Nat.le_of_ble_eq_true rfl | (simp; done) | (simp; omega)) ?_
    rintro _ _ _ ⟨b2, rfl, rfl, rfl⟩
    refine Own.W.putF (pc := 35) (host := "") (Or.inl (hw _ (List.mem_of_getElem? (i := 78) rfl))) (Via.refl (O := "java/lang/AbstractStringBuilder")) d18_35 (Or.inl (hw _ (List.mem_of_getElem? (i := 79) rfl))) (hw _ (List.mem_of_getElem? (i := 65) rfl)) (ty := (.array .byte)) (by decide) rfl rfl (by repeat (first | exact Own.Upd.head | exact Own.Upd.mid | apply Own.Upd.tail)) (by repeat (first | exact Own.FUp.head | apply Own.FUp.tail)) ?_
    refine Own.W.perm ?_ (List.Perm.swap _ _ _)
    rw [Own.pad_len hxc, Own.pad_grow hxc (by omega)]
    refine Own.W.vret (pc := 38) d18_38 rfl  ?_ (by first | exact Nat.le_of_ble_eq_true rfl | (simp; done) | (simp; omega)) (by first | exact Nat.le_of_ble_eq_true rfl | (simp; done) | (simp; omega))
    exact ⟨b2, _, rfl, rfl, Own.Sub.cons (Own.Sub.refl _), rfl⟩
theorem d20_0 : decode jdk_68_method_71_code 0 = .ok (.getstatic 18, 3) := by decide +kernel
theorem d20_3 : decode jdk_68_method_71_code 3 = .ok (.ifCond .eq 18, 3) := by decide +kernel
theorem d20_6 : decode jdk_68_method_71_code 6 = .ok (.aload_n 0, 1) := by decide +kernel
theorem d20_7 : decode jdk_68_method_71_code 7 = .ok (.getfield 22, 3) := by decide +kernel
theorem d20_10 : decode jdk_68_method_71_code 10 = .ok (.aload_n 1, 1) := by decide +kernel
theorem d20_11 : decode jdk_68_method_71_code 11 = .ok (.invokevirtual 40, 3) := by decide +kernel
theorem d20_14 : decode jdk_68_method_71_code 14 = .ok (.if_icmp .eq 7, 3) := by decide +kernel
theorem d20_21 : decode jdk_68_method_71_code 21 = .ok (.return_, 1) := by decide +kernel
theorem pn_21961446 : plainFor (⟨"java/lang/AbstractStringBuilder", "inflateIfNeededFor", "(Ljava/lang/String;)V"⟩ : MethodName) = true := by first | exact plainFor_of_name (by first | (simp [plainName, overriddenIn]; done) | decide +kernel) | decide +kernel
set_option maxRecDepth 65536 in
set_option maxHeartbeats 4000000 in
theorem ct_inf (G : Own.Gx) (hw : ∀ d ∈ tables_1, d.before G.a0 G.Z = true) (hC : Own.CSt G) {As : List Own.Ent} {Li : List Own.LitE} (o b : Addr) (xs : List Int32) (cap : Nat) (hxc : xs.length ≤ cap) (hcap : cap ≤ 4000) (s : Addr) (ys : List Int32) (hs : Own.StrF As s (ys.map Value.int)) :
    Own.Ct G [] (⟨"java/lang/AbstractStringBuilder", "inflateIfNeededFor", "(Ljava/lang/String;)V"⟩ : MethodName) jdk_68_method_71_code 2 none ({ frames := 1, cells := 0, slots := 0, locals := 13 } : Room) [.ref o, .ref s] ((o, true, Own.obj "java/lang/StringBuilder" F_java_lang_StringBuilder [.ref b, .int 0, .int xs.length.toInt32]) :: (b, true, Own.arr .byte (Own.pad xs cap)) :: As) Li (fun v A L => v = none ∧ A = ((o, true, Own.obj "java/lang/StringBuilder" F_java_lang_StringBuilder [.ref b, .int 0, .int xs.length.toInt32]) :: (b, true, Own.arr .byte (Own.pad xs cap)) :: As) ∧ Li = L) := by
  refine Own.Ct.intro pn_21961446 (Ls := [.val (.ref o), .val (.ref s)]) rfl rfl ?_
  intro K
  obtain ⟨cz, hC1, hC2⟩ := hC
  refine Own.W.getS (pc := 0) (host := "") (Or.inl (hw _ (List.mem_of_getElem? (i := 77) rfl))) (Via.refl (O := "java/lang/String")) d20_0 hC1 ?_
  refine Own.W.if_eq (pc := 3) 21 d20_3 (by decide) (by decide) (fun h3 => absurd h3 hC2) ?_
  intro h3
  refine Own.W.aloadN (pc := 6) d20_6 rfl rfl ?_
  refine Own.W.getF (pc := 7) (host := "") (Or.inl (hw _ (List.mem_of_getElem? (i := 80) rfl))) (Via.refl (O := "java/lang/AbstractStringBuilder")) d20_7 (by repeat (first | exact List.Mem.head _ | assumption | exact List.mem_append_right _ (List.Mem.head _) | apply List.Mem.tail)) (by repeat (first | exact Own.FAt.head | apply Own.FAt.tail)) ?_
  refine Own.W.aloadN (pc := 10) d20_10 rfl rfl ?_
  refine Own.W.callV (pc := 11) (ct_coder G hw ⟨cz, hC1, hC2⟩ s _ 0 rfl (hs.sub (Own.Sub.cons (Own.Sub.cons (Own.Sub.refl _)))).str) d20_11 (C := "java/lang/String") (hs.sub (Own.Sub.cons (Own.Sub.cons (Own.Sub.refl _)))).is (hw _ (List.mem_of_getElem? (i := 120) rfl)) (hw _ (List.mem_of_getElem? (i := 99) rfl)) (Own.nf_sel (hw _ (List.mem_of_getElem? (i := 101) rfl))) (hw _ (List.mem_of_getElem? (i := 101) rfl)) (hw _ (List.mem_of_getElem? (i := 100) rfl)) (hw _ (List.mem_of_getElem? (i := 3) rfl)) (hw _ (List.mem_of_getElem? (i := 102) rfl)) (by decide) pd_93421976 rfl rfl (Nat.le_of_ble_eq_true rfl) (Nat.le_of_ble_eq_true rfl) (Nat.le_of_ble_eq_true rfl) (Nat.le_of_ble_eq_true rfl) ?_
  rintro _ _ _ ⟨rfl, rfl, rfl⟩
  refine Own.W.ic_eq (pc := 14) 21 d20_14 (by decide) (by decide) ?_ (fun h14 => absurd h14 (fun q => q rfl))
  intro h14
  refine Own.W.vret (pc := 21) d20_21 rfl ?_ (Nat.le_of_ble_eq_true rfl) (Nat.le_of_ble_eq_true rfl)
  exact ⟨rfl, rfl, rfl⟩
theorem d21_0 : decode jdk_42_method_147_code 0 = .ok (.aload_n 0, 1) := by decide +kernel
theorem d21_1 : decode jdk_42_method_147_code 1 = .ok (.invokevirtual 335, 3) := by decide +kernel
theorem d21_4 : decode jdk_42_method_147_code 4 = .ok (.iload_n 3, 1) := by decide +kernel
theorem d21_5 : decode jdk_42_method_147_code 5 = .ok (.if_icmp .ne 23, 3) := by decide +kernel
theorem d21_8 : decode jdk_42_method_147_code 8 = .ok (.aload_n 0, 1) := by decide +kernel
theorem d21_9 : decode jdk_42_method_147_code 9 = .ok (.getfield 9, 3) := by decide +kernel
theorem d21_12 : decode jdk_42_method_147_code 12 = .ok (.iconst 0, 1) := by decide +kernel
theorem d21_13 : decode jdk_42_method_147_code 13 = .ok (.aload_n 1, 1) := by decide +kernel
theorem d21_14 : decode jdk_42_method_147_code 14 = .ok (.iload_n 2, 1) := by decide +kernel
theorem d21_15 : decode jdk_42_method_147_code 15 = .ok (.iload_n 3, 1) := by decide +kernel
theorem d21_16 : decode jdk_42_method_147_code 16 = .ok (.ishl, 1) := by decide +kernel
theorem d21_17 : decode jdk_42_method_147_code 17 = .ok (.aload_n 0, 1) := by decide +kernel
theorem d21_18 : decode jdk_42_method_147_code 18 = .ok (.getfield 9, 3) := by decide +kernel
theorem d21_21 : decode jdk_42_method_147_code 21 = .ok (.arraylength, 1) := by decide +kernel
theorem d21_22 : decode jdk_42_method_147_code 22 = .ok (.invokestatic 212, 3) := by decide +kernel
theorem d21_25 : decode jdk_42_method_147_code 25 = .ok (.goto 18, 3) := by decide +kernel
theorem d21_43 : decode jdk_42_method_147_code 43 = .ok (.return_, 1) := by decide +kernel
theorem pn_79751644 : plainFor (⟨"java/lang/String", "getBytes", "([BIB)V"⟩ : MethodName) = true := by first | exact plainFor_of_name (by first | (simp [plainName, overriddenIn]; done) | decide +kernel) | decide +kernel
set_option maxRecDepth 65536 in
set_option maxHeartbeats 4000000 in
theorem ct_gby (G : Own.Gx) (hw : ∀ d ∈ tables_1, d.before G.a0 G.Z = true) (hC : Own.CSt G) {As : List Own.Ent} {Li : List Own.LitE} (x : Own.Ent) (b : Addr) (us : List Value) (n : Nat) (s : Addr) (ys : List Int32) (hs : Own.StrF As s (ys.map Value.int)) (hn : n + ys.length ≤ us.length) (hu : us.length ≤ 4000) :
    Own.Ct G [] (⟨"java/lang/String", "getBytes", "([BIB)V"⟩ : MethodName) jdk_42_method_147_code 4 none ({ frames := 1, cells := 0, slots := 0, locals := 18 } : Room) [.ref s, .ref b, .int n.toInt32, .int 0] (x :: (b, true, Own.arr .byte us) :: As) Li (fun v A L => v = none ∧ A = x :: (b, true, Own.arr .byte (us.take n ++ ys.map Value.int ++ us.drop (n + ys.length))) :: As ∧ Li = L) := by
  refine Own.Ct.intro pn_79751644 (Ls := [.val (.ref s), .val (.ref b), .val (.int n.toInt32), .val (.int 0)]) rfl rfl ?_
  intro K
  obtain ⟨ab, a1, a2, a3, a4⟩ := ((hs.sub (Own.Sub.cons (Own.Sub.cons (Own.Sub.refl _)))).str : Own.StrIn G _ s _ 0)
  refine Own.W.aloadN (pc := 0) d21_0 rfl rfl ?_
  refine Own.W.callV (pc := 1) (ct_coder G hw hC s _ 0 rfl (hs.sub (Own.Sub.cons (Own.Sub.cons (Own.Sub.refl _)))).str) d21_1 (C := "java/lang/String") (hs.sub (Own.Sub.cons (Own.Sub.cons (Own.Sub.refl _)))).is (hw _ (List.mem_of_getElem? (i := 98) rfl)) (hw _ (List.mem_of_getElem? (i := 99) rfl)) (Own.nf_sel (hw _ (List.mem_of_getElem? (i := 101) rfl))) (hw _ (List.mem_of_getElem? (i := 101) rfl)) (hw _ (List.mem_of_getElem? (i := 100) rfl)) (hw _ (List.mem_of_getElem? (i := 3) rfl)) (hw _ (List.mem_of_getElem? (i := 102) rfl)) (by decide) pd_93421976 rfl rfl (Nat.le_of_ble_eq_true rfl) (Nat.le_of_ble_eq_true rfl) (Nat.le_of_ble_eq_true rfl) (Nat.le_of_ble_eq_true rfl) ?_
  rintro _ _ _ ⟨rfl, rfl, rfl⟩
  refine Own.W.iloadN (pc := 4) d21_4 rfl ?_
  refine Own.W.ic_ne (pc := 5) 28 d21_5 (by decide) (by decide) (fun h5 => absurd h5 (fun q => q rfl)) ?_
  intro h5
  refine Own.W.aloadN (pc := 8) d21_8 rfl rfl ?_
  refine Own.W.getI (pc := 9) (host := "") (Or.inl (hw _ (List.mem_of_getElem? (i := 28) rfl))) (Via.refl (O := "java/lang/String")) d21_9 a2 ?_
  refine Own.W.iconst (pc := 12) (z := (0 : Int32)) d21_12 (by decide) ?_
  refine Own.W.aloadN (pc := 13) d21_13 rfl rfl ?_
  refine Own.W.iloadN (pc := 14) d21_14 rfl ?_
  refine Own.W.iloadN (pc := 15) d21_15 rfl ?_
  refine Own.W.ishl (pc := 16) d21_16 (z := n.toInt32) (Own.shl0 _) ?_
  refine Own.W.aloadN (pc := 17) d21_17 rfl rfl ?_
  refine Own.W.getI (pc := 18) (host := "") (Or.inl (hw _ (List.mem_of_getElem? (i := 28) rfl))) (Via.refl (O := "java/lang/String")) d21_18 a2 ?_
  refine Own.W.alen (pc := 21) d21_21 a4 (z := ys.length.toInt32) (by simp) ?_
  refine Own.W.acopy (pc := 22) (us := us) d21_22 (hw _ (List.mem_of_getElem? (i := 126) rfl)) (hw _ (List.mem_of_getElem? (i := 129) rfl)) (hw _ (List.mem_of_getElem? (i := 127) rfl)) (hw _ (List.mem_of_getElem? (i := 128) rfl)) a4 rfl (by decide) (Own.n_nn (by omega)) (Own.n_nn (by omega)) (i := 0) rfl (Own.n_clamp (by omega)) (Own.n_clamp (by omega)) (by simp) (by omega) (us' := us.take n ++ ys.map Value.int ++ us.drop (n + ys.length)) (by rw [List.drop_zero, show (ys.map Value.int).take ys.length = ys.map Value.int from List.take_of_length_le (by simp)]) (by repeat (first | exact Own.Upd.head | exact Own.Upd.mid | apply Own.Upd.tail)) (Nat.le_of_ble_eq_true rfl) (Nat.le_of_ble_eq_true rfl) ?_
  refine Own.W.goto (pc := 25) 43 d21_25 (by decide) (by decide) ?_
  refine Own.W.vret (pc := 43) d21_43 rfl ?_ (Nat.le_of_ble_eq_true rfl) (Nat.le_of_ble_eq_true rfl)
  exact ⟨rfl, rfl, rfl⟩
theorem d19_0 : decode jdk_68_method_73_code 0 = .ok (.aload_n 0, 1) := by decide +kernel
theorem d19_1 : decode jdk_68_method_73_code 1 = .ok (.aload_n 2, 1) := by decide +kernel
theorem d19_2 : decode jdk_68_method_73_code 2 = .ok (.invokevirtual 397, 3) := by decide +kernel
theorem pd_62450860 : parseMethodDescriptor "(Ljava/lang/String;)V" = some ⟨[(.object "java/lang/String")], none⟩ := by decide +kernel
theorem d19_5 : decode jdk_68_method_73_code 5 = .ok (.aload_n 2, 1) := by decide +kernel
theorem d19_6 : decode jdk_68_method_73_code 6 = .ok (.aload_n 0, 1) := by decide +kernel
theorem d19_7 : decode jdk_68_method_73_code 7 = .ok (.getfield 15, 3) := by decide +kernel
theorem d19_10 : decode jdk_68_method_73_code 10 = .ok (.iload_n 1, 1) := by decide +kernel
theorem d19_11 : decode jdk_68_method_73_code 11 = .ok (.aload_n 0, 1) := by decide +kernel
theorem d19_12 : decode jdk_68_method_73_code 12 = .ok (.getfield 22, 3) := by decide +kernel
theorem d19_15 : decode jdk_68_method_73_code 15 = .ok (.invokevirtual 399, 3) := by decide +kernel
theorem pd_24288788 : parseMethodDescriptor "([BIB)V" = some ⟨[(.array .byte), .int, .byte], none⟩ := by decide +kernel
theorem d19_18 : decode jdk_68_method_73_code 18 = .ok (.return_, 1) := by decide +kernel
theorem pn_19119446 : plainFor (⟨"java/lang/AbstractStringBuilder", "putStringAt", "(ILjava/lang/String;)V"⟩ : MethodName) = true := by first | exact plainFor_of_name (by first | (simp [plainName, overriddenIn]; done) | decide +kernel) | decide +kernel
set_option maxRecDepth 65536 in
set_option maxHeartbeats 4000000 in
theorem ct_psa (G : Own.Gx) (hw : ∀ d ∈ tables_1, d.before G.a0 G.Z = true) (hC : Own.CSt G) {As : List Own.Ent} {Li : List Own.LitE} (o b : Addr) (xs : List Int32) (cap : Nat) (hxc : xs.length ≤ cap) (hcap : cap ≤ 4000) (s : Addr) (ys : List Int32) (hs : Own.StrF As s (ys.map Value.int)) (hn : xs.length + ys.length ≤ cap) :
    Own.Ct G [] (⟨"java/lang/AbstractStringBuilder", "putStringAt", "(ILjava/lang/String;)V"⟩ : MethodName) jdk_68_method_73_code 3 none ({ frames := 2, cells := 0, slots := 0, locals := 33 } : Room) [.ref o, .int xs.length.toInt32, .ref s] ((o, true, Own.obj "java/lang/StringBuilder" F_java_lang_StringBuilder [.ref b, .int 0, .int xs.length.toInt32]) :: (b, true, Own.arr .byte (Own.pad xs cap)) :: As) Li (fun v A L => v = none ∧ A = ((o, true, Own.obj "java/lang/StringBuilder" F_java_lang_StringBuilder [.ref b, .int 0, .int xs.length.toInt32]) :: (b, true, Own.arr .byte (Own.pad (xs ++ ys) cap)) :: As) ∧ Li = L) := by
  refine Own.Ct.intro pn_19119446 (Ls := [.val (.ref o), .val (.int xs.length.toInt32), .val (.ref s)]) rfl rfl ?_
  intro K
  refine Own.W.aloadN (pc := 0) d19_0 rfl rfl ?_
  refine Own.W.aloadN (pc := 1) d19_1 rfl rfl ?_
  refine Own.W.callV (pc := 2) (ct_inf G hw hC o b xs cap hxc hcap s ys hs) d19_2 (C := "java/lang/StringBuilder") (Own.Is.mem (List.Mem.head _)) (hw _ (List.mem_of_getElem? (i := 115) rfl)) (Own.decl_of (hw _ (List.mem_of_getElem? (i := 116) rfl)) (hw _ (List.mem_of_getElem? (i := 119) rfl))) (Own.nf_sel (hw _ (List.mem_of_getElem? (i := 118) rfl))) (hw _ (List.mem_of_getElem? (i := 118) rfl)) (hw _ (List.mem_of_getElem? (i := 116) rfl)) (hw _ (List.mem_of_getElem? (i := 74) rfl)) (hw _ (List.mem_of_getElem? (i := 119) rfl)) (by decide) pd_62450860 rfl rfl (Nat.le_of_ble_eq_true rfl) (Nat.le_of_ble_eq_true rfl) (Nat.le_of_ble_eq_true rfl) (Nat.le_of_ble_eq_true rfl) ?_
  rintro _ _ _ ⟨rfl, rfl, rfl⟩
  refine Own.W.aloadN (pc := 5) d19_5 rfl rfl ?_
  refine Own.W.aloadN (pc := 6) d19_6 rfl rfl ?_
  refine Own.W.getF (pc := 7) (host := "") (Or.inl (hw _ (List.mem_of_getElem? (i := 78) rfl))) (Via.refl (O := "java/lang/AbstractStringBuilder")) d19_7 (by repeat (first | exact List.Mem.head _ | assumption | exact List.mem_append_right _ (List.Mem.head _) | apply List.Mem.tail)) (by repeat (first | exact Own.FAt.head | apply Own.FAt.tail)) ?_
  refine Own.W.iloadN (pc := 10) d19_10 rfl ?_
  refine Own.W.aloadN (pc := 11) d19_11 rfl rfl ?_
  refine Own.W.getF (pc := 12) (host := "") (Or.inl (hw _ (List.mem_of_getElem? (i := 80) rfl))) (Via.refl (O := "java/lang/AbstractStringBuilder")) d19_12 (by repeat (first | exact List.Mem.head _ | assumption | exact List.mem_append_right _ (List.Mem.head _) | apply List.Mem.tail)) (by repeat (first | exact Own.FAt.head | apply Own.FAt.tail)) ?_
  refine Own.W.callV (pc := 15) (ct_gby G hw hC _ b _ xs.length s ys hs (by rw [Own.pad_len hxc]; exact hn) (by rw [Own.pad_len hxc]; exact hcap)) d19_15 (C := "java/lang/String") (hs.sub (Own.Sub.cons (Own.Sub.cons (Own.Sub.refl _)))).is (hw _ (List.mem_of_getElem? (i := 121) rfl)) (hw _ (List.mem_of_getElem? (i := 122) rfl)) (Own.nf_sel (hw _ (List.mem_of_getElem? (i := 124) rfl))) (hw _ (List.mem_of_getElem? (i := 124) rfl)) (hw _ (List.mem_of_getElem? (i := 123) rfl)) (hw _ (List.mem_of_getElem? (i := 3) rfl)) (hw _ (List.mem_of_getElem? (i := 125) rfl)) (by decide) pd_24288788 rfl rfl (Nat.le_of_ble_eq_true rfl) (Nat.le_of_ble_eq_true rfl) (Nat.le_of_ble_eq_true rfl) (Nat.le_of_ble_eq_true rfl) ?_
  rintro _ _ _ ⟨rfl, rfl, rfl⟩
  rw [Own.pad_put hn]
  refine Own.W.vret (pc := 18) d19_18 rfl  ?_ (Nat.le_of_ble_eq_true rfl) (Nat.le_of_ble_eq_true rfl)
  exact ⟨rfl, rfl, rfl⟩
theorem d15_0 : decode jdk_68_method_22_code 0 = .ok (.aload_n 1, 1) := by decide +kernel
theorem d15_1 : decode jdk_68_method_22_code 1 = .ok (.ifnonnull 8, 3) := by decide +kernel
theorem d15_9 : decode jdk_68_method_22_code 9 = .ok (.aload_n 1, 1) := by decide +kernel
theorem d15_10 : decode jdk_68_method_22_code 10 = .ok (.invokevirtual 32, 3) := by decide +kernel
theorem pd_93421983 : parseMethodDescriptor "()I" = some ⟨[], some .int⟩ := by decide +kernel
theorem d15_13 : decode jdk_68_method_22_code 13 = .ok (.istore_n 2, 1) := by decide +kernel
theorem d15_14 : decode jdk_68_method_22_code 14 = .ok (.aload_n 0, 1) := by decide +kernel
theorem d15_15 : decode jdk_68_method_22_code 15 = .ok (.aload_n 0, 1) := by decide +kernel
theorem d15_16 : decode jdk_68_method_22_code 16 = .ok (.getfield 79, 3) := by decide +kernel
theorem d15_19 : decode jdk_68_method_22_code 19 = .ok (.iload_n 2, 1) := by decide +kernel
theorem d15_20 : decode jdk_68_method_22_code 20 = .ok (.iadd, 1) := by decide +kernel
theorem d15_21 : decode jdk_68_method_22_code 21 = .ok (.invokevirtual 100, 3) := by decide +kernel
theorem d15_24 : decode jdk_68_method_22_code 24 = .ok (.aload_n 0, 1) := by decide +kernel
theorem d15_25 : decode jdk_68_method_22_code 25 = .ok (.aload_n 0, 1) := by decide +kernel
theorem d15_26 : decode jdk_68_method_22_code 26 = .ok (.getfield 79, 3) := by decide +kernel
theorem d15_29 : decode jdk_68_method_22_code 29 = .ok (.aload_n 1, 1) := by decide +kernel
theorem d15_30 : decode jdk_68_method_22_code 30 = .ok (.invokevirtual 208, 3) := by decide +kernel
theorem pd_62292757 : parseMethodDescriptor "(ILjava/lang/String;)V" = some ⟨[.int, (.object "java/lang/String")], none⟩ := by decide +kernel
theorem d15_33 : decode jdk_68_method_22_code 33 = .ok (.aload_n 0, 1) := by decide +kernel
theorem d15_34 : decode jdk_68_method_22_code 34 = .ok (.dup, 1) := by decide +kernel
theorem d15_35 : decode jdk_68_method_22_code 35 = .ok (.getfield 79, 3) := by decide +kernel
theorem d15_38 : decode jdk_68_method_22_code 38 = .ok (.iload_n 2, 1) := by decide +kernel
theorem d15_39 : decode jdk_68_method_22_code 39 = .ok (.iadd, 1) := by decide +kernel
theorem d15_40 : decode jdk_68_method_22_code 40 = .ok (.putfield 79, 3) := by decide +kernel
theorem d15_43 : decode jdk_68_method_22_code 43 = .ok (.aload_n 0, 1) := by decide +kernel
theorem d15_44 : decode jdk_68_method_22_code 44 = .ok (.areturn, 1) := by decide +kernel
theorem pn_39640229 : plainFor (⟨"java/lang/AbstractStringBuilder", "append", "(Ljava/lang/String;)Ljava/lang/AbstractStringBuilder;"⟩ : MethodName) = true := by first | exact plainFor_of_name (by first | (simp [plainName, overriddenIn]; done) | decide +kernel) | decide +kernel
set_option maxRecDepth 65536 in
set_option maxHeartbeats 4000000 in
theorem ct_aap (G : Own.Gx) (hw : ∀ d ∈ tables_1, d.before G.a0 G.Z = true) (hC : Own.CSt G) {As : List Own.Ent} {Li : List Own.LitE} (o b : Addr) (xs : List Int32) (cap : Nat) (hxc : xs.length ≤ cap) (hcap : cap ≤ 4000) (s : Addr) (ys : List Int32) (hs : Own.StrF As s (ys.map Value.int)) (N : Nat) (hl : xs.length + ys.length ≤ 4000) (hN : Own.grow cap (xs.length + ys.length) ≤ N) (hN4 : N ≤ 4000) :
    Own.Ct G [] (⟨"java/lang/AbstractStringBuilder", "append", "(Ljava/lang/String;)Ljava/lang/AbstractStringBuilder;"⟩ : MethodName) jdk_68_method_22_code 3 (some (.object "java/lang/AbstractStringBuilder")) ({ frames := 4, cells := 1, slots := N, locals := 62 } : Room) [.ref o, .ref s] ((o, true, Own.obj "java/lang/StringBuilder" F_java_lang_StringBuilder [.ref b, .int 0, .int xs.length.toInt32]) :: (b, true, Own.arr .byte (Own.pad xs cap)) :: As) Li (fun v A L => ∃ b2 A0, v = some (.ref o) ∧ A = ((o, true, Own.obj "java/lang/StringBuilder" F_java_lang_StringBuilder [.ref b2, .int 0, .int (xs ++ ys).length.toInt32]) :: (b2, true, Own.arr .byte (Own.pad (xs ++ ys) (Own.grow cap (xs.length + ys.length)))) :: A0) ∧ Own.Sub As A0 ∧ Li = L) := by
  refine Own.Ct.intro pn_39640229 (Ls := [.val (.ref o), .val (.ref s), .unset]) rfl rfl ?_
  intro K
  refine Own.W.aloadN (pc := 0) d15_0 rfl rfl ?_
  refine Own.W.nonnullY (pc := 1) 9 d15_1 (by decide) (by decide) ?_
  refine Own.W.aloadN (pc := 9) d15_9 rfl rfl ?_
  refine Own.W.callV (pc := 10) (ct_slen G hw hC s _ ys.length.toInt32 (hs.sub (Own.Sub.cons (Own.Sub.cons (Own.Sub.refl _)))).str (by simp)) d15_10 (C := "java/lang/String") (hs.sub (Own.Sub.cons (Own.Sub.cons (Own.Sub.refl _)))).is (hw _ (List.mem_of_getElem? (i := 93) rfl)) (hw _ (List.mem_of_getElem? (i := 94) rfl)) (Own.nf_sel (hw _ (List.mem_of_getElem? (i := 96) rfl))) (hw _ (List.mem_of_getElem? (i := 96) rfl)) (hw _ (List.mem_of_getElem? (i := 95) rfl)) (hw _ (List.mem_of_getElem? (i := 3) rfl)) (hw _ (List.mem_of_getElem? (i := 97) rfl)) (by decide) pd_93421983 rfl rfl (Nat.le_of_ble_eq_true rfl) (Nat.le_of_ble_eq_true rfl) (Nat.le_of_ble_eq_true rfl) (by first | exact Nat.le_of_ble_eq_true rfl | (simp; done) | (simp; omega)) ?_
  rintro _ _ _ ⟨rfl, rfl, rfl⟩
  refine Own.W.istoreN (pc := 13) (Ls' := [_, _, _]) d15_13 rfl rfl ?_
  refine Own.W.aloadN (pc := 14) d15_14 rfl rfl ?_
  refine Own.W.aloadN (pc := 15) d15_15 rfl rfl ?_
  refine Own.W.getF (pc := 16) (host := "") (Or.inl (hw _ (List.mem_of_getElem? (i := 103) rfl))) (Via.refl (O := "java/lang/AbstractStringBuilder")) d15_16 (by repeat (first | exact List.Mem.head _ | assumption | exact List.mem_append_right _ (List.Mem.head _) | apply List.Mem.tail)) (by repeat (first | exact Own.FAt.head | apply Own.FAt.tail)) ?_
  refine Own.W.iloadN (pc := 19) d15_19 rfl ?_
  refine Own.W.iadd (pc := 20) d15_20 (z := (xs.length + ys.length).toInt32) (Own.n_add _ _) ?_
  refine Own.W.callV (pc := 21) (ct_eci G hw o b xs cap hxc hcap (xs.length + ys.length) N hl hN hN4) d15_21 (C := "java/lang/StringBuilder") (Own.Is.mem (List.Mem.head _)) (hw _ (List.mem_of_getElem? (i := 105) rfl)) (Own.decl_of (hw _ (List.mem_of_getElem? (i := 106) rfl)) (hw _ (List.mem_of_getElem? (i := 109) rfl))) (Own.nf_sel (hw _ (List.mem_of_getElem? (i := 108) rfl))) (hw _ (List.mem_of_getElem? (i := 108) rfl)) (hw _ (List.mem_of_getElem? (i := 106) rfl)) (hw _ (List.mem_of_getElem? (i := 74) rfl)) (hw _ (List.mem_of_getElem? (i := 109) rfl)) (by decide) pd_87992021 rfl rfl (Nat.le_of_ble_eq_true rfl) (Nat.le_of_ble_eq_true rfl) (Nat.le_of_ble_eq_true rfl) (by first | exact Nat.le_of_ble_eq_true rfl | (simp; done) | (simp; omega)) ?_
  rintro _ _ _ ⟨b2, A0, rfl, rfl, hsub, rfl⟩
  have hge : xs.length + ys.length ≤ (Own.grow cap (xs.length + ys.length)) := Own.grow_ge
  refine Own.W.aloadN (pc := 24) d15_24 rfl rfl ?_
  refine Own.W.aloadN (pc := 25) d15_25 rfl rfl ?_
  refine Own.W.getF (pc := 26) (host := "") (Or.inl (hw _ (List.mem_of_getElem? (i := 103) rfl))) (Via.refl (O := "java/lang/AbstractStringBuilder")) d15_26 (by repeat (first | exact List.Mem.head _ | assumption | exact List.mem_append_right _ (List.Mem.head _) | apply List.Mem.tail)) (by repeat (first | exact Own.FAt.head | apply Own.FAt.tail)) ?_
  refine Own.W.aloadN (pc := 29) d15_29 rfl rfl ?_
  refine Own.W.callV (pc := 30) (ct_psa G hw hC o b2 xs (Own.grow cap (xs.length + ys.length)) (by omega) (by omega) s ys (hs.sub hsub) hge) d15_30 (C := "java/lang/StringBuilder") (Own.Is.mem (List.Mem.head _)) (hw _ (List.mem_of_getElem? (i := 110) rfl)) (Own.decl_of (hw _ (List.mem_of_getElem? (i := 111) rfl)) (hw _ (List.mem_of_getElem? (i := 114) rfl))) (Own.nf_sel (hw _ (List.mem_of_getElem? (i := 113) rfl))) (hw _ (List.mem_of_getElem? (i := 113) rfl)) (hw _ (List.mem_of_getElem? (i := 111) rfl)) (hw _ (List.mem_of_getElem? (i := 74) rfl)) (hw _ (List.mem_of_getElem? (i := 114) rfl)) (by decide) pd_62292757 rfl rfl (Nat.le_of_ble_eq_true rfl) (Nat.le_of_ble_eq_true rfl) (Nat.le_of_ble_eq_true rfl) (by first | exact Nat.le_of_ble_eq_true rfl | (simp; done) | (simp; omega)) ?_
  rintro _ _ _ ⟨rfl, rfl, rfl⟩
  refine Own.W.aloadN (pc := 33) d15_33 rfl rfl ?_
  refine Own.W.dup (pc := 34) d15_34 rfl ?_
  refine Own.W.getF (pc := 35) (host := "") (Or.inl (hw _ (List.mem_of_getElem? (i := 103) rfl))) (Via.refl (O := "java/lang/AbstractStringBuilder")) d15_35 (by repeat (first | exact List.Mem.head _ | assumption | exact List.mem_append_right _ (List.Mem.head _) | apply List.Mem.tail)) (by repeat (first | exact Own.FAt.head | apply Own.FAt.tail)) ?_
  refine Own.W.iloadN (pc := 38) d15_38 rfl ?_
  refine Own.W.iadd (pc := 39) d15_39 (z := (xs ++ ys).length.toInt32) (by rw [Own.n_add, List.length_append]) ?_
  refine Own.W.putF (pc := 40) (host := "") (Or.inl (hw _ (List.mem_of_getElem? (i := 103) rfl))) (Via.refl (O := "java/lang/AbstractStringBuilder")) d15_40 (Or.inl (hw _ (List.mem_of_getElem? (i := 104) rfl))) (hw _ (List.mem_of_getElem? (i := 65) rfl)) (ty := .int) (by decide) rfl rfl (by repeat (first | exact Own.Upd.head | exact Own.Upd.mid | apply Own.Upd.tail)) (by repeat (first | exact Own.FUp.head | apply Own.FUp.tail)) ?_
  refine Own.W.aloadN (pc := 43) d15_43 rfl rfl ?_
  refine Own.W.aret (pc := 44) d15_44 rfl rfl rfl ?_ (by first | exact Nat.le_of_ble_eq_true rfl | (simp; done) | (simp; omega)) (by first | exact Nat.le_of_ble_eq_true rfl | (simp; done) | (simp; omega))
  exact ⟨b2, A0, rfl, rfl, hsub, rfl⟩
theorem d14_0 : decode jdk_67_method_7_code 0 = .ok (.aload_n 0, 1) := by decide +kernel
theorem d14_1 : decode jdk_67_method_7_code 1 = .ok (.aload_n 1, 1) := by decide +kernel
theorem d14_2 : decode jdk_67_method_7_code 2 = .ok (.invokespecial 29, 3) := by decide +kernel
theorem pd_29712177 : parseMethodDescriptor "(Ljava/lang/String;)Ljava/lang/AbstractStringBuilder;" = some ⟨[(.object "java/lang/String")], some (.object "java/lang/AbstractStringBuilder")⟩ := by decide +kernel
theorem d14_5 : decode jdk_67_method_7_code 5 = .ok (.pop, 1) := by decide +kernel
theorem d14_6 : decode jdk_67_method_7_code 6 = .ok (.aload_n 0, 1) := by decide +kernel
theorem d14_7 : decode jdk_67_method_7_code 7 = .ok (.areturn, 1) := by decide +kernel
theorem pn_12648445 : plainFor (⟨"java/lang/StringBuilder", "append", "(Ljava/lang/String;)Ljava/lang/StringBuilder;"⟩ : MethodName) = true := by first | exact plainFor_of_name (by first | (simp [plainName, overriddenIn]; done) | decide +kernel) | decide +kernel
set_option maxRecDepth 65536 in
set_option maxHeartbeats 4000000 in
theorem ct_app (G : Own.Gx) (hw : ∀ d ∈ tables_1, d.before G.a0 G.Z = true) (hC : Own.CSt G) {As : List Own.Ent} {Li : List Own.LitE} (o b : Addr) (xs : List Int32) (cap : Nat) (hxc : xs.length ≤ cap) (hcap : cap ≤ 4000) (s : Addr) (ys : List Int32) (hs : Own.StrF As s (ys.map Value.int)) (N : Nat) (hl : xs.length + ys.length ≤ 4000) (hN : Own.grow cap (xs.length + ys.length) ≤ N) (hN4 : N ≤ 4000) :
    Own.Ct G [] (⟨"java/lang/StringBuilder", "append", "(Ljava/lang/String;)Ljava/lang/StringBuilder;"⟩ : MethodName) jdk_67_method_7_code 2 (some (.object "java/lang/StringBuilder")) ({ frames := 5, cells := 1, slots := N, locals := 76 } : Room) [.ref o, .ref s] ((o, true, Own.obj "java/lang/StringBuilder" F_java_lang_StringBuilder [.ref b, .int 0, .int xs.length.toInt32]) :: (b, true, Own.arr .byte (Own.pad xs cap)) :: As) Li (fun v A L => ∃ b2 A0, v = some (.ref o) ∧ A = ((o, true, Own.obj "java/lang/StringBuilder" F_java_lang_StringBuilder [.ref b2, .int 0, .int (xs ++ ys).length.toInt32]) :: (b2, true, Own.arr .byte (Own.pad (xs ++ ys) (Own.grow cap (xs.length + ys.length)))) :: A0) ∧ Own.Sub As A0 ∧ Li = L) := by
  refine Own.Ct.intro pn_12648445 (Ls := [.val (.ref o), .val (.ref s)]) rfl rfl ?_
  intro K
  refine Own.W.aloadN (pc := 0) d14_0 rfl rfl ?_
  refine Own.W.aloadN (pc := 1) d14_1 rfl rfl ?_
  refine Own.W.callX (pc := 2) (ct_aap G hw hC o b xs cap hxc hcap s ys hs N hl hN hN4) d14_2 (C := "java/lang/StringBuilder") (Own.Is.mem (List.Mem.head _)) (hw _ (List.mem_of_getElem? (i := 88) rfl)) (Own.same_of (hw _ (List.mem_of_getElem? (i := 89) rfl)) (hw _ (List.mem_of_getElem? (i := 108) rfl)) rfl (by decide)) (hw _ (List.mem_of_getElem? (i := 89) rfl)) (hw _ (List.mem_of_getElem? (i := 90) rfl)) (by decide) (hw _ (List.mem_of_getElem? (i := 74) rfl)) (hw _ (List.mem_of_getElem? (i := 92) rfl)) pd_29712177 rfl rfl (Nat.le_of_ble_eq_true rfl) (Nat.le_of_ble_eq_true rfl) (Nat.le_of_ble_eq_true rfl) (by first | exact Nat.le_of_ble_eq_true rfl | (simp; done) | (simp; omega)) ?_
  rintro _ _ _ ⟨b2, A0, rfl, rfl, hsub, rfl⟩
  refine Own.W.pop (pc := 5) d14_5 rfl ?_
  refine Own.W.aloadN (pc := 6) d14_6 rfl rfl ?_
  refine Own.W.aret (pc := 7) d14_7 rfl rfl rfl ?_ (by first | exact Nat.le_of_ble_eq_true rfl | (simp; done) | (simp; omega)) (by first | exact Nat.le_of_ble_eq_true rfl | (simp; done) | (simp; omega))
  exact ⟨b2, A0, rfl, rfl, hsub, rfl⟩
theorem d31_0 : decode jdk_68_method_64_code 0 = .ok (.aload_n 0, 1) := by decide +kernel
theorem d31_1 : decode jdk_68_method_64_code 1 = .ok (.getfield 15, 3) := by decide +kernel
theorem d31_4 : decode jdk_68_method_64_code 4 = .ok (.areturn, 1) := by decide +kernel
theorem pn_61978220 : plainFor (⟨"java/lang/AbstractStringBuilder", "getValue", "()[B"⟩ : MethodName) = true := by first | exact plainFor_of_name (by first | (simp [plainName, overriddenIn]; done) | decide +kernel) | decide +kernel
set_option maxRecDepth 65536 in
set_option maxHeartbeats 4000000 in
theorem ct_sgv (G : Own.Gx) (hw : ∀ d ∈ tables_1, d.before G.a0 G.Z = true) {As : List Own.Ent} {Li : List Own.LitE} (o b : Addr) (n : Int32) {w : Bool} (hm : (o, w, Own.obj "java/lang/StringBuilder" F_java_lang_StringBuilder [.ref b, .int 0, .int n]) ∈ As) :
    Own.Ct G [] (⟨"java/lang/AbstractStringBuilder", "getValue", "()[B"⟩ : MethodName) jdk_68_method_64_code 1 (some (.array .byte)) ({ frames := 0, cells := 0, slots := 0, locals := 0 } : Room) [.ref o] As Li (fun v A L => v = some (.ref b) ∧ As = A ∧ Li = L) := by
  refine Own.Ct.intro pn_61978220 (Ls := [.val (.ref o)]) rfl rfl ?_
  intro K
  refine Own.W.aloadN (pc := 0) d31_0 rfl rfl ?_
  refine Own.W.getF (pc := 1) (host := "") (Or.inl (hw _ (List.mem_of_getElem? (i := 78) rfl))) (Via.refl (O := "java/lang/AbstractStringBuilder")) d31_1 (by repeat (first | exact List.Mem.head _ | assumption | exact List.mem_append_right _ (List.Mem.head _) | apply List.Mem.tail)) (by repeat (first | exact Own.FAt.head | apply Own.FAt.tail)) ?_
  refine Own.W.aret (pc := 4) d31_4 rfl rfl rfl ?_ (Nat.le_of_ble_eq_true rfl) (Nat.le_of_ble_eq_true rfl)
  exact ⟨rfl, rfl, rfl⟩
theorem d33_0 : decode jdk_68_method_6_code 0 = .ok (.aload_n 0, 1) := by decide +kernel
theorem d33_1 : decode jdk_68_method_6_code 1 = .ok (.getfield 79, 3) := by decide +kernel
theorem d33_4 : decode jdk_68_method_6_code 4 = .ok (.ireturn, 1) := by decide +kernel
theorem pn_72432637 : plainFor (⟨"java/lang/AbstractStringBuilder", "length", "()I"⟩ : MethodName) = true := by first | exact plainFor_of_name (by first | (simp [plainName, overriddenIn]; done) | decide +kernel) | decide +kernel
set_option maxRecDepth 65536 in
set_option maxHeartbeats 4000000 in
theorem ct_sl0 (G : Own.Gx) (hw : ∀ d ∈ tables_1, d.before G.a0 G.Z = true) {As : List Own.Ent} {Li : List Own.LitE} (o b : Addr) (n : Int32) {w : Bool} (hm : (o, w, Own.obj "java/lang/StringBuilder" F_java_lang_StringBuilder [.ref b, .int 0, .int n]) ∈ As) :
    Own.Ct G [] (⟨"java/lang/AbstractStringBuilder", "length", "()I"⟩ : MethodName) jdk_68_method_6_code 1 (some .int) ({ frames := 0, cells := 0, slots := 0, locals := 0 } : Room) [.ref o] As Li (fun v A L => v = some (.int n) ∧ As = A ∧ Li = L) := by
  refine Own.Ct.intro pn_72432637 (Ls := [.val (.ref o)]) rfl rfl ?_
  intro K
  refine Own.W.aloadN (pc := 0) d33_0 rfl rfl ?_
  refine Own.W.getF (pc := 1) (host := "") (Or.inl (hw _ (List.mem_of_getElem? (i := 103) rfl))) (Via.refl (O := "java/lang/AbstractStringBuilder")) d33_1 (by repeat (first | exact List.Mem.head _ | assumption | exact List.mem_append_right _ (List.Mem.head _) | apply List.Mem.tail)) (by repeat (first | exact Own.FAt.head | apply Own.FAt.tail)) ?_
  refine Own.W.iret (pc := 4) d33_4 rfl (by simp) rfl ?_ (Nat.le_of_ble_eq_true rfl) (Nat.le_of_ble_eq_true rfl)
  exact ⟨rfl, rfl, rfl⟩
theorem d32_0 : decode jdk_67_method_93_code 0 = .ok (.aload_n 0, 1) := by decide +kernel
theorem d32_1 : decode jdk_67_method_93_code 1 = .ok (.invokespecial 343, 3) := by decide +kernel
theorem d32_4 : decode jdk_67_method_93_code 4 = .ok (.ireturn, 1) := by decide +kernel
theorem pn_47719209 : plainFor (⟨"java/lang/StringBuilder", "length", "()I"⟩ : MethodName) = true := by first | exact plainFor_of_name (by first | (simp [plainName, overriddenIn]; done) | decide +kernel) | decide +kernel
set_option maxRecDepth 65536 in
set_option maxHeartbeats 4000000 in
theorem ct_sl1 (G : Own.Gx) (hw : ∀ d ∈ tables_1, d.before G.a0 G.Z = true) {As : List Own.Ent} {Li : List Own.LitE} (o b : Addr) (n : Int32) {w : Bool} (hm : (o, w, Own.obj "java/lang/StringBuilder" F_java_lang_StringBuilder [.ref b, .int 0, .int n]) ∈ As) :
    Own.Ct G [] (⟨"java/lang/StringBuilder", "length", "()I"⟩ : MethodName) jdk_67_method_93_code 1 (some .int) ({ frames := 1, cells := 0, slots := 0, locals := 12 } : Room) [.ref o] As Li (fun v A L => v = some (.int n) ∧ As = A ∧ Li = L) := by
  refine Own.Ct.intro pn_47719209 (Ls := [.val (.ref o)]) rfl rfl ?_
  intro K
  refine Own.W.aloadN (pc := 0) d32_0 rfl rfl ?_
  refine Own.W.callX (pc := 1) (ct_sl0 G hw o b n hm) d32_1 (C := "java/lang/StringBuilder") (Own.Is.mem hm) (hw _ (List.mem_of_getElem? (i := 185) rfl)) (Own.same_of (hw _ (List.mem_of_getElem? (i := 181) rfl)) (hw _ (List.mem_of_getElem? (i := 108) rfl)) rfl (by decide)) (hw _ (List.mem_of_getElem? (i := 181) rfl)) (hw _ (List.mem_of_getElem? (i := 90) rfl)) (by decide) (hw _ (List.mem_of_getElem? (i := 74) rfl)) (hw _ (List.mem_of_getElem? (i := 186) rfl)) pd_93421983 rfl rfl (Nat.le_of_ble_eq_true rfl) (Nat.le_of_ble_eq_true rfl) (Nat.le_of_ble_eq_true rfl) (Nat.le_of_ble_eq_true rfl) ?_
  rintro _ _ _ ⟨rfl, rfl, rfl⟩
  refine Own.W.iret (pc := 4) d32_4 rfl (by simp) rfl ?_ (Nat.le_of_ble_eq_true rfl) (Nat.le_of_ble_eq_true rfl)
  exact ⟨rfl, rfl, rfl⟩
theorem d34_0 : decode jdk_68_method_68_code 0 = .ok (.getstatic 18, 3) := by decide +kernel
theorem d34_3 : decode jdk_68_method_68_code 3 = .ok (.ifCond .eq 14, 3) := by decide +kernel
theorem d34_6 : decode jdk_68_method_68_code 6 = .ok (.aload_n 0, 1) := by decide +kernel
theorem d34_7 : decode jdk_68_method_68_code 7 = .ok (.getfield 22, 3) := by decide +kernel
theorem d34_10 : decode jdk_68_method_68_code 10 = .ok (.ifCond .ne 7, 3) := by decide +kernel
theorem d34_13 : decode jdk_68_method_68_code 13 = .ok (.iconst 1, 1) := by decide +kernel
theorem d34_14 : decode jdk_68_method_68_code 14 = .ok (.goto 4, 3) := by decide +kernel
theorem d34_18 : decode jdk_68_method_68_code 18 = .ok (.ireturn, 1) := by decide +kernel
theorem pn_26062833 : plainFor (⟨"java/lang/AbstractStringBuilder", "isLatin1", "()Z"⟩ : MethodName) = true := by first | exact plainFor_of_name (by first | (simp [plainName, overriddenIn]; done) | decide +kernel) | decide +kernel
set_option maxRecDepth 65536 in
set_option maxHeartbeats 4000000 in
theorem ct_sis (G : Own.Gx) (hw : ∀ d ∈ tables_1, d.before G.a0 G.Z = true) (hC : Own.CSt G) {As : List Own.Ent} {Li : List Own.LitE} (o b : Addr) (n : Int32) {w : Bool} (hm : (o, w, Own.obj "java/lang/StringBuilder" F_java_lang_StringBuilder [.ref b, .int 0, .int n]) ∈ As) :
    Own.Ct G [] (⟨"java/lang/AbstractStringBuilder", "isLatin1", "()Z"⟩ : MethodName) jdk_68_method_68_code 1 (some .boolean) ({ frames := 0, cells := 0, slots := 0, locals := 0 } : Room) [.ref o] As Li (fun v A L => v = some (.int 1) ∧ As = A ∧ Li = L) := by
  refine Own.Ct.intro pn_26062833 (Ls := [.val (.ref o)]) rfl rfl ?_
  intro K
  obtain ⟨cz, hC1, hC2⟩ := hC
  refine Own.W.getS (pc := 0) (host := "") (Or.inl (hw _ (List.mem_of_getElem? (i := 77) rfl))) (Via.refl (O := "java/lang/String")) d34_0 hC1 ?_
  refine Own.W.if_eq (pc := 3) 17 d34_3 (by decide) (by decide) (fun h3 => absurd h3 hC2) ?_
  intro h3
  refine Own.W.aloadN (pc := 6) d34_6 rfl rfl ?_
  refine Own.W.getF (pc := 7) (host := "") (Or.inl (hw _ (List.mem_of_getElem? (i := 80) rfl))) (Via.refl (O := "java/lang/AbstractStringBuilder")) d34_7 (by repeat (first | exact List.Mem.head _ | assumption | exact List.mem_append_right _ (List.Mem.head _) | apply List.Mem.tail)) (by repeat (first | exact Own.FAt.head | apply Own.FAt.tail)) ?_
  refine Own.W.if_ne (pc := 10) 17 d34_10 (by decide) (by decide) (fun h10 => absurd h10 (fun q => q rfl)) ?_
  intro h10
  refine Own.W.iconst (pc := 13) (z := (1 : Int32)) d34_13 (by decide) ?_
  refine Own.W.goto (pc := 14) 18 d34_14 (by decide) (by decide) ?_
  refine Own.W.iret (pc := 18) d34_18 rfl (by simp) (by first | rfl | decide) ?_ (Nat.le_of_ble_eq_true rfl) (Nat.le_of_ble_eq_true rfl)
  exact ⟨rfl, rfl, rfl⟩
theorem d30_0 : decode jdk_42_method_150_code 0 = .ok (.aload_n 0, 1) := by decide +kernel
theorem d30_1 : decode jdk_42_method_150_code 1 = .ok (.invokespecial 1, 3) := by decide +kernel
theorem d30_4 : decode jdk_42_method_150_code 4 = .ok (.aload_n 1, 1) := by decide +kernel
theorem d30_5 : decode jdk_42_method_150_code 5 = .ok (.invokevirtual 552, 3) := by decide +kernel
theorem pd_87958803 : parseMethodDescriptor "()[B" = some ⟨[], some (.array .byte)⟩ := by decide +kernel
theorem d30_8 : decode jdk_42_method_150_code 8 = .ok (.astore_n 3, 1) := by decide +kernel
theorem d30_9 : decode jdk_42_method_150_code 9 = .ok (.aload_n 1, 1) := by decide +kernel
theorem d30_10 : decode jdk_42_method_150_code 10 = .ok (.invokevirtual 549, 3) := by decide +kernel
theorem d30_13 : decode jdk_42_method_150_code 13 = .ok (.istore 4, 2) := by decide +kernel
theorem d30_15 : decode jdk_42_method_150_code 15 = .ok (.aload_n 1, 1) := by decide +kernel
theorem d30_16 : decode jdk_42_method_150_code 16 = .ok (.invokevirtual 1047, 3) := by decide +kernel
theorem pd_93422000 : parseMethodDescriptor "()Z" = some ⟨[], some .boolean⟩ := by decide +kernel
theorem d30_19 : decode jdk_42_method_150_code 19 = .ok (.ifCond .eq 22, 3) := by decide +kernel
theorem d30_22 : decode jdk_42_method_150_code 22 = .ok (.aload_n 0, 1) := by decide +kernel
theorem d30_23 : decode jdk_42_method_150_code 23 = .ok (.iconst 0, 1) := by decide +kernel
theorem d30_24 : decode jdk_42_method_150_code 24 = .ok (.putfield 15, 3) := by decide +kernel
theorem d30_27 : decode jdk_42_method_150_code 27 = .ok (.aload_n 0, 1) := by decide +kernel
theorem d30_28 : decode jdk_42_method_150_code 28 = .ok (.aload_n 3, 1) := by decide +kernel
theorem d30_29 : decode jdk_42_method_150_code 29 = .ok (.iconst 0, 1) := by decide +kernel
theorem d30_30 : decode jdk_42_method_150_code 30 = .ok (.iload 4, 2) := by decide +kernel
theorem d30_32 : decode jdk_42_method_150_code 32 = .ok (.invokestatic 54, 3) := by decide +kernel
theorem d30_35 : decode jdk_42_method_150_code 35 = .ok (.putfield 9, 3) := by decide +kernel
theorem d30_38 : decode jdk_42_method_150_code 38 = .ok (.goto 59, 3) := by decide +kernel
theorem d30_97 : decode jdk_42_method_150_code 97 = .ok (.return_, 1) := by decide +kernel
theorem pn_95129745 : plainFor (⟨"java/lang/String", "<init>", "(Ljava/lang/AbstractStringBuilder;Ljava/lang/Void;)V"⟩ : MethodName) = true := by first | exact plainFor_of_name (by first | (simp [plainName, overriddenIn]; done) | decide +kernel) | decide +kernel
set_option maxRecDepth 65536 in
set_option maxHeartbeats 4000000 in
theorem ct_ssv (G : Own.Gx) (hw : ∀ d ∈ tables_1, d.before G.a0 G.Z = true) (hC : Own.CSt G) {As : List Own.Ent} {Li : List Own.LitE} (s : Addr) (o b : Addr) (xs : List Int32) (cap : Nat) (hxc : xs.length ≤ cap) (hcap : cap ≤ 4000) (hne : xs.length < cap) (N : Nat) (hN : xs.length ≤ N) (hN4 : N ≤ 4000) :
    Own.Ct G [] (⟨"java/lang/String", "<init>", "(Ljava/lang/AbstractStringBuilder;Ljava/lang/Void;)V"⟩ : MethodName) jdk_42_method_150_code 5 none ({ frames := 3, cells := 1, slots := N, locals := 49 } : Room) [.ref s, .ref o, .null] ((s, true, Own.obj "java/lang/String" F_java_lang_String [.int 0, .null]) :: (o, true, Own.obj "java/lang/StringBuilder" F_java_lang_StringBuilder [.ref b, .int 0, .int xs.length.toInt32]) :: (b, true, Own.arr .byte (Own.pad xs cap)) :: As) Li (fun v A L => ∃ t, v = none ∧ A = (t, true, Own.arr .byte (xs.map Value.int)) :: (s, true, Own.obj "java/lang/String" F_java_lang_String [.int 0, .ref t]) :: (o, true, Own.obj "java/lang/StringBuilder" F_java_lang_StringBuilder [.ref b, .int 0, .int xs.length.toInt32]) :: (b, true, Own.arr .byte (Own.pad xs cap)) :: As ∧ Li = L) := by
  refine Own.Ct.intro pn_95129745 (Ls := [.val (.ref s), .val (.ref o), .val (.null), .unset, .unset]) rfl rfl ?_
  intro K
  refine Own.W.aloadN (pc := 0) d30_0 rfl rfl ?_
  refine Own.W.callO (pc := 1) d30_1 (hw _ (List.mem_of_getElem? (i := 11) rfl)) (hw _ (List.mem_of_getElem? (i := 12) rfl)) (hw _ (List.mem_of_getElem? (i := 13) rfl)) (Nat.le_of_ble_eq_true rfl) (Nat.le_of_ble_eq_true rfl) ?_
  refine Own.W.aloadN (pc := 4) d30_4 rfl rfl ?_
  refine Own.W.callV (pc := 5) (ct_sgv G hw o b _ (List.Mem.tail _ (List.Mem.head _))) d30_5 (C := "java/lang/StringBuilder") (Own.Is.mem (List.Mem.tail _ (List.Mem.head _))) (hw _ (List.mem_of_getElem? (i := 174) rfl)) (hw _ (List.mem_of_getElem? (i := 175) rfl)) (Own.nf_sel (hw _ (List.mem_of_getElem? (i := 177) rfl))) (hw _ (List.mem_of_getElem? (i := 177) rfl)) (hw _ (List.mem_of_getElem? (i := 176) rfl)) (hw _ (List.mem_of_getElem? (i := 74) rfl)) (hw _ (List.mem_of_getElem? (i := 178) rfl)) (by decide) pd_87958803 rfl rfl (Nat.le_of_ble_eq_true rfl) (Nat.le_of_ble_eq_true rfl) (Nat.le_of_ble_eq_true rfl) (by first | exact Nat.le_of_ble_eq_true rfl | (simp; done) | (simp; omega)) ?_
  rintro _ _ _ ⟨rfl, rfl, rfl⟩
  refine Own.W.astoreN (pc := 8) (Ls' := [_, _, _, _, _]) d30_8 rfl rfl rfl ?_
  refine Own.W.aloadN (pc := 9) d30_9 rfl rfl ?_
  refine Own.W.callV (pc := 10) (ct_sl1 G hw o b _ (List.Mem.tail _ (List.Mem.head _))) d30_10 (C := "java/lang/StringBuilder") (Own.Is.mem (List.Mem.tail _ (List.Mem.head _))) (hw _ (List.mem_of_getElem? (i := 179) rfl)) (hw _ (List.mem_of_getElem? (i := 180) rfl)) (Own.nf_cls (hw _ (List.mem_of_getElem? (i := 108) rfl)) rfl) (hw _ (List.mem_of_getElem? (i := 182) rfl)) (hw _ (List.mem_of_getElem? (i := 183) rfl)) (hw _ (List.mem_of_getElem? (i := 66) rfl)) (hw _ (List.mem_of_getElem? (i := 184) rfl)) (by decide) pd_93421983 rfl rfl (Nat.le_of_ble_eq_true rfl) (Nat.le_of_ble_eq_true rfl) (Nat.le_of_ble_eq_true rfl) (by first | exact Nat.le_of_ble_eq_true rfl | (simp; done) | (simp; omega)) ?_
  rintro _ _ _ ⟨rfl, rfl, rfl⟩
  refine Own.W.istore (pc := 13) (Ls' := [_, _, _, _, _]) d30_13 rfl rfl ?_
  refine Own.W.aloadN (pc := 15) d30_15 rfl rfl ?_
  refine Own.W.callV (pc := 16) (ct_sis G hw hC o b _ (List.Mem.tail _ (List.Mem.head _))) d30_16 (C := "java/lang/StringBuilder") (Own.Is.mem (List.Mem.tail _ (List.Mem.head _))) (hw _ (List.mem_of_getElem? (i := 187) rfl)) (hw _ (List.mem_of_getElem? (i := 188) rfl)) (Own.nf_sel (hw _ (List.mem_of_getElem? (i := 190) rfl))) (hw _ (List.mem_of_getElem? (i := 190) rfl)) (hw _ (List.mem_of_getElem? (i := 189) rfl)) (hw _ (List.mem_of_getElem? (i := 74) rfl)) (hw _ (List.mem_of_getElem? (i := 191) rfl)) (by decide) pd_93422000 rfl rfl (Nat.le_of_ble_eq_true rfl) (Nat.le_of_ble_eq_true rfl) (Nat.le_of_ble_eq_true rfl) (by first | exact Nat.le_of_ble_eq_true rfl | (simp; done) | (simp; omega)) ?_
  rintro _ _ _ ⟨rfl, rfl, rfl⟩
  refine Own.W.if_eq (pc := 19) 41 d30_19 (by decide) (by decide) (fun h19 => absurd h19 (by decide)) ?_
  intro h19
  refine Own.W.aloadN (pc := 22) d30_22 rfl rfl ?_
  refine Own.W.iconst (pc := 23) (z := (0 : Int32)) d30_23 (by decide) ?_
  refine Own.W.putN (pc := 24) (hw _ (List.mem_of_getElem? (i := 26) rfl)) (Via.refl (O := "java/lang/String")) d30_24 (Or.inr ⟨(hw _ (List.mem_of_getElem? (i := 27) rfl)), rfl, rfl⟩) (hw _ (List.mem_of_getElem? (i := 2) rfl)) (ty := .byte) (by decide) rfl (by first | rfl | decide) (by repeat (first | exact Own.Upd.head | exact Own.Upd.mid | apply Own.Upd.tail)) (by repeat (first | exact Own.FUp.head | apply Own.FUp.tail)) ?_
  refine Own.W.aloadN (pc := 27) d30_27 rfl rfl ?_
  refine Own.W.aloadN (pc := 28) d30_28 rfl rfl ?_
  refine Own.W.iconst (pc := 29) (z := (0 : Int32)) d30_29 (by decide) ?_
  refine Own.W.iload (pc := 30) d30_30 rfl ?_
  refine Own.W.callS (pc := 32) (ct_cor G hw b _ xs.length N (by rw [Own.pad_len hxc]; exact hne) (by rw [Own.pad_len hxc]; omega) hN hN4 (Own.AVin.mem (List.Mem.tail _ (List.Mem.tail _ (List.Mem.head _))))) d30_32 (hw _ (List.mem_of_getElem? (i := 192) rfl)) (hw _ (List.mem_of_getElem? (i := 193) rfl)) (hw _ (List.mem_of_getElem? (i := 156) rfl)) (hw _ (List.mem_of_getElem? (i := 194) rfl)) (by decide) pd_47730210 rfl rfl (Nat.le_of_ble_eq_true rfl) (Nat.le_of_ble_eq_true rfl) (Nat.le_of_ble_eq_true rfl) (by first | exact Nat.le_of_ble_eq_true rfl | (simp; done) | (simp; omega)) ?_
  rintro _ _ _ ⟨t, rfl, rfl, rfl⟩
  refine Own.W.putF (pc := 35) (host := "") (Or.inl (hw _ (List.mem_of_getElem? (i := 28) rfl))) (Via.refl (O := "java/lang/String")) d30_35 (Or.inr ⟨(hw _ (List.mem_of_getElem? (i := 29) rfl)), rfl, rfl⟩) (hw _ (List.mem_of_getElem? (i := 2) rfl)) (ty := (.array .byte)) (by decide) rfl rfl (by repeat (first | exact Own.Upd.head | exact Own.Upd.mid | apply Own.Upd.tail)) (by repeat (first | exact Own.FUp.head | apply Own.FUp.tail)) ?_
  refine Own.W.goto (pc := 38) 97 d30_38 (by decide) (by decide) ?_
  rw [Own.pad_take]
  refine Own.W.vret (pc := 97) d30_97 rfl  ?_ (by first | exact Nat.le_of_ble_eq_true rfl | (simp; done) | (simp; omega)) (by first | exact Nat.le_of_ble_eq_true rfl | (simp; done) | (simp; omega))
  exact ⟨t, rfl, rfl, rfl⟩
theorem d29_0 : decode jdk_42_method_53_code 0 = .ok (.aload_n 0, 1) := by decide +kernel
theorem d29_1 : decode jdk_42_method_53_code 1 = .ok (.aload_n 1, 1) := by decide +kernel
theorem d29_2 : decode jdk_42_method_53_code 2 = .ok (.aconst_null, 1) := by decide +kernel
theorem d29_3 : decode jdk_42_method_53_code 3 = .ok (.invokespecial 489, 3) := by decide +kernel
theorem pd_35917794 : parseMethodDescriptor "(Ljava/lang/AbstractStringBuilder;Ljava/lang/Void;)V" = some ⟨[(.object "java/lang/AbstractStringBuilder"), (.object "java/lang/Void")], none⟩ := by decide +kernel
theorem d29_6 : decode jdk_42_method_53_code 6 = .ok (.return_, 1) := by decide +kernel
theorem pn_59478978 : plainFor (⟨"java/lang/String", "<init>", "(Ljava/lang/StringBuilder;)V"⟩ : MethodName) = true := by first | exact plainFor_of_name (by first | (simp [plainName, overriddenIn]; done) | decide +kernel) | decide +kernel
set_option maxRecDepth 65536 in
set_option maxHeartbeats 4000000 in
theorem ct_ssb (G : Own.Gx) (hw : ∀ d ∈ tables_1, d.before G.a0 G.Z = true) (hC : Own.CSt G) {As : List Own.Ent} {Li : List Own.LitE} (s : Addr) (o b : Addr) (xs : List Int32) (cap : Nat) (hxc : xs.length ≤ cap) (hcap : cap ≤ 4000) (hne : xs.length < cap) (N : Nat) (hN : xs.length ≤ N) (hN4 : N ≤ 4000) :
    Own.Ct G [] (⟨"java/lang/String", "<init>", "(Ljava/lang/StringBuilder;)V"⟩ : MethodName) jdk_42_method_53_code 2 none ({ frames := 4, cells := 1, slots := N, locals := 65 } : Room) [.ref s, .ref o] ((s, true, Own.obj "java/lang/String" F_java_lang_String [.int 0, .null]) :: (o, true, Own.obj "java/lang/StringBuilder" F_java_lang_StringBuilder [.ref b, .int 0, .int xs.length.toInt32]) :: (b, true, Own.arr .byte (Own.pad xs cap)) :: As) Li (fun v A L => ∃ t, v = none ∧ A = (t, true, Own.arr .byte (xs.map Value.int)) :: (s, true, Own.obj "java/lang/String" F_java_lang_String [.int 0, .ref t]) :: (o, true, Own.obj "java/lang/StringBuilder" F_java_lang_StringBuilder [.ref b, .int 0, .int xs.length.toInt32]) :: (b, true, Own.arr .byte (Own.pad xs cap)) :: As ∧ Li = L) := by
  refine Own.Ct.intro pn_59478978 (Ls := [.val (.ref s), .val (.ref o)]) rfl rfl ?_
  intro K
  refine Own.W.aloadN (pc := 0) d29_0 rfl rfl ?_
  refine Own.W.aloadN (pc := 1) d29_1 rfl rfl ?_
  refine Own.W.aconstNull (pc := 2) d29_2 ?_
  refine Own.W.callI (pc := 3) (ct_ssv G hw hC s o b xs cap hxc hcap hne N hN hN4) d29_3 rfl (hw _ (List.mem_of_getElem? (i := 171) rfl)) (hw _ (List.mem_of_getElem? (i := 172) rfl)) (hw _ (List.mem_of_getElem? (i := 3) rfl)) (hw _ (List.mem_of_getElem? (i := 173) rfl)) (by decide) pd_35917794 rfl rfl (Nat.le_of_ble_eq_true rfl) (Nat.le_of_ble_eq_true rfl) (Nat.le_of_ble_eq_true rfl) (by first | exact Nat.le_of_ble_eq_true rfl | (simp; done) | (simp; omega)) ?_
  rintro _ _ _ ⟨t, rfl, rfl, rfl⟩
  refine Own.W.vret (pc := 6) d29_6 rfl  ?_ (by first | exact Nat.le_of_ble_eq_true rfl | (simp; done) | (simp; omega)) (by first | exact Nat.le_of_ble_eq_true rfl | (simp; done) | (simp; omega))
  exact ⟨t, rfl, rfl, rfl⟩
theorem d28_0 : decode jdk_67_method_42_code 0 = .ok (.new 18, 3) := by decide +kernel
theorem d28_3 : decode jdk_67_method_42_code 3 = .ok (.dup, 1) := by decide +kernel
theorem d28_4 : decode jdk_67_method_42_code 4 = .ok (.aload_n 0, 1) := by decide +kernel
theorem d28_5 : decode jdk_67_method_42_code 5 = .ok (.invokespecial 137, 3) := by decide +kernel
theorem pd_91813651 : parseMethodDescriptor "(Ljava/lang/StringBuilder;)V" = some ⟨[(.object "java/lang/StringBuilder")], none⟩ := by decide +kernel
theorem d28_8 : decode jdk_67_method_42_code 8 = .ok (.areturn, 1) := by decide +kernel
theorem pn_320280 : plainFor (⟨"java/lang/StringBuilder", "toString", "()Ljava/lang/String;"⟩ : MethodName) = true := by first | exact plainFor_of_name (by first | (simp [plainName, overriddenIn]; done) | decide +kernel) | decide +kernel
set_option maxRecDepth 65536 in
set_option maxHeartbeats 4000000 in
theorem ct_tos (G : Own.Gx) (hw : ∀ d ∈ tables_1, d.before G.a0 G.Z = true) (hC : Own.CSt G) {As : List Own.Ent} {Li : List Own.LitE} (o b : Addr) (xs : List Int32) (cap : Nat) (hxc : xs.length ≤ cap) (hcap : cap ≤ 4000) (hne : xs.length < cap) (N : Nat) (hN : xs.length ≤ N) (hN4 : N ≤ 4000) :
    Own.Ct G [] (⟨"java/lang/StringBuilder", "toString", "()Ljava/lang/String;"⟩ : MethodName) jdk_67_method_42_code 1 (some (.object "java/lang/String")) ({ frames := 5, cells := 2, slots := (N + 4), locals := 79 } : Room) [.ref o] ((o, true, Own.obj "java/lang/StringBuilder" F_java_lang_StringBuilder [.ref b, .int 0, .int xs.length.toInt32]) :: (b, true, Own.arr .byte (Own.pad xs cap)) :: As) Li (fun v A L => ∃ s, v = some (.ref s) ∧ Own.StrF A s (xs.map Value.int) ∧ Own.Sub As A ∧ Li = L) := by
  refine Own.Ct.intro pn_320280 (Ls := [.val (.ref o)]) rfl rfl ?_
  intro K
  refine Own.W.new (pc := 0) (hw _ (List.mem_of_getElem? (i := 167) rfl)) (hw _ (List.mem_of_getElem? (i := 2) rfl)) (hw _ (List.mem_of_getElem? (i := 3) rfl)) d28_0 (LF_java_lang_String G hw) (vs := [.int 0, .null]) (by decide) (Nat.le_of_ble_eq_true rfl) (by first | exact Nat.le_of_ble_eq_true rfl | (simp; done) | (simp; omega)) ?_
  intro o0
  refine Own.W.dup (pc := 3) d28_3 rfl ?_
  refine Own.W.aloadN (pc := 4) d28_4 rfl rfl ?_
  refine Own.W.callI (pc := 5) (ct_ssb G hw hC o0 o b xs cap hxc hcap hne N hN hN4) d28_5 rfl (hw _ (List.mem_of_getElem? (i := 168) rfl)) (hw _ (List.mem_of_getElem? (i := 169) rfl)) (hw _ (List.mem_of_getElem? (i := 3) rfl)) (hw _ (List.mem_of_getElem? (i := 170) rfl)) (by decide) pd_91813651 rfl rfl (Nat.le_of_ble_eq_true rfl) (Nat.le_of_ble_eq_true rfl) (Nat.le_of_ble_eq_true rfl) (by first | exact Nat.le_of_ble_eq_true rfl | (simp; done) | (simp; omega)) ?_
  rintro _ _ _ ⟨t, rfl, rfl, rfl⟩
  refine Own.W.frz Own.Frz.head ?_
  refine Own.W.frz (Own.Frz.tail Own.Frz.head) ?_
  refine Own.W.aret (pc := 8) d28_8 rfl rfl rfl ?_ (by first | exact Nat.le_of_ble_eq_true rfl | (simp; done) | (simp; omega)) (by first | exact Nat.le_of_ble_eq_true rfl | (simp; done) | (simp; omega))
  exact ⟨_, rfl, ⟨t, _, _, List.Mem.tail _ (List.Mem.head _), (by repeat (first | exact Own.FAt.head | apply Own.FAt.tail)), (by repeat (first | exact Own.FAt.head | apply Own.FAt.tail)), List.Mem.head _⟩, Own.Sub.cons (Own.Sub.cons (Own.Sub.cons (Own.Sub.cons (Own.Sub.refl _)))), rfl⟩
def F_com_example_precedence_precedence_Problem_Missing : List Own.Fd := [("com/example/precedence/precedence/Problem$Missing", "member", "Ljava/lang/String;"), ("com/example/precedence/precedence/Problem$Missing", "dependency", "Ljava/lang/String;")]
theorem LF_com_example_precedence_precedence_Problem_Missing (G : Own.Gx) (hw : ∀ d ∈ tables_1, d.before G.a0 G.Z = true) : Own.LaidAll G.Z G.a0 "com/example/precedence/precedence/Problem$Missing" F_com_example_precedence_precedence_Problem_Missing := ⟨by decide, Own.LaidAll.cons (Or.inr (hw _ (List.mem_of_getElem? (i := 56) rfl))) (t := (.object "java/lang/String")) (by decide) (Own.LaidAll.cons (Or.inr (hw _ (List.mem_of_getElem? (i := 58) rfl))) (t := (.object "java/lang/String")) (by decide) (Own.LaidAll.nil))⟩
abbrev ush (x k : Int32) : Int32 := (x.toUInt32 >>> (k &&& 31).toUInt32).toInt32
theorem own_ch {x : Int32} (h : x &&& 255 = x) : ¬ (255 : Int32) < x := by
  have q := c_mask x 255 8 (by decide) (by decide)
  rw [h] at q
  rw [Int32.lt_iff_toInt_lt, q]
  have h2 : (255 : Int32).toInt = 255 := rfl
  omega
theorem own_id (x : Int32) : (x &&& 255) &&& 255 = x &&& 255 := by
  have q := c_mask x 255 8 (by decide) (by decide)
  have r := c_mask (x &&& 255) 255 8 (by decide) (by decide)
  exact Int32.toInt_inj.mp (by omega)
theorem own_back {x : Int32} (h : x &&& 255 = x) : x.toInt8.toInt32 &&& 255 = x := by
  have q := c_mask x 255 8 (by decide) (by decide)
  have r := c_mask x.toInt8.toInt32 255 8 (by decide) (by decide)
  have b := (c_i2b x).1
  rw [h] at q
  exact Int32.toInt_inj.mp (by omega)
theorem own_nar {x : Int32} (h : x &&& 255 = x) : nar .char x = x := by rw [← h]; exact i2c_mask x
abbrev own_by (cs : List Int32) : List Int32 := cs.map fun z => z.toInt8.toInt32
theorem own_by_map (cs : List Int32) : cs.map Own.byt = (own_by cs).map Value.int := by simp [own_by, List.map_map, Function.comp_def]
theorem d9_0 : decode jdk_30_method_1_code 0 = .ok (.aload_n 0, 1) := by decide +kernel
theorem d9_1 : decode jdk_30_method_1_code 1 = .ok (.invokespecial 1, 3) := by decide +kernel
theorem d9_4 : decode jdk_30_method_1_code 4 = .ok (.return_, 1) := by decide +kernel
theorem pn_78803619 : plainFor (⟨"java/lang/Record", "<init>", "()V"⟩ : MethodName) = true := by first | exact plainFor_of_name (by first | (simp [plainName, overriddenIn]; done) | decide +kernel) | decide +kernel
set_option maxRecDepth 65536 in
set_option maxHeartbeats 4000000 in
theorem ct_rec (G : Own.Gx) (hw : ∀ d ∈ tables_1, d.before G.a0 G.Z = true) {As : List Own.Ent} {Li : List Own.LitE} (o : Addr) :
    Own.Ct G [] (⟨"java/lang/Record", "<init>", "()V"⟩ : MethodName) jdk_30_method_1_code 1 none ({ frames := 1, cells := 0, slots := 0, locals := 12 } : Room) [.ref o] As Li (fun v A L => v = none ∧ As = A ∧ Li = L) := by
  refine Own.Ct.intro pn_78803619 (Ls := [.val (.ref o)]) rfl rfl ?_
  intro K
  refine Own.W.aloadN (pc := 0) d9_0 rfl rfl ?_
  refine Own.W.callO (pc := 1) d9_1 (hw _ (List.mem_of_getElem? (i := 48) rfl)) (hw _ (List.mem_of_getElem? (i := 12) rfl)) (hw _ (List.mem_of_getElem? (i := 13) rfl)) (Nat.le_of_ble_eq_true rfl) (Nat.le_of_ble_eq_true rfl) ?_
  refine Own.W.vret (pc := 4) d9_4 rfl ?_ (Nat.le_of_ble_eq_true rfl) (Nat.le_of_ble_eq_true rfl)
  exact ⟨rfl, rfl, rfl⟩
theorem d10_0 : decode jdk_31_method_11_code 0 = .ok (.aload_n 0, 1) := by decide +kernel
theorem d10_1 : decode jdk_31_method_11_code 1 = .ok (.ifnonnull 12, 3) := by decide +kernel
theorem d10_13 : decode jdk_31_method_11_code 13 = .ok (.aload_n 0, 1) := by decide +kernel
theorem d10_14 : decode jdk_31_method_11_code 14 = .ok (.areturn, 1) := by decide +kernel
theorem pn_34632137 : plainFor (⟨"java/util/Objects", "requireNonNull", "(Ljava/lang/Object;Ljava/lang/String;)Ljava/lang/Object;"⟩ : MethodName) = true := by first | exact plainFor_of_name (by first | (simp [plainName, overriddenIn]; done) | decide +kernel) | decide +kernel
set_option maxRecDepth 65536 in
set_option maxHeartbeats 4000000 in
theorem ct_rn2 (G : Own.Gx) (hw : ∀ d ∈ tables_1, d.before G.a0 G.Z = true) {As : List Own.Ent} {Li : List Own.LitE} (a b : Addr) :
    Own.Ct G [] (⟨"java/util/Objects", "requireNonNull", "(Ljava/lang/Object;Ljava/lang/String;)Ljava/lang/Object;"⟩ : MethodName) jdk_31_method_11_code 2 (some (.object "java/lang/Object")) ({ frames := 0, cells := 0, slots := 0, locals := 0 } : Room) [.ref a, .ref b] As Li (fun v A L => v = some (.ref a) ∧ As = A ∧ Li = L) := by
  refine Own.Ct.intro pn_34632137 (Ls := [.val (.ref a), .val (.ref b)]) rfl rfl ?_
  intro K
  refine Own.W.aloadN (pc := 0) d10_0 rfl rfl ?_
  refine Own.W.nonnullY (pc := 1) 13 d10_1 (by decide) (by decide) ?_
  refine Own.W.aloadN (pc := 13) d10_13 rfl rfl ?_
  refine Own.W.aret (pc := 14) d10_14 rfl rfl rfl ?_ (Nat.le_of_ble_eq_true rfl) (Nat.le_of_ble_eq_true rfl)
  exact ⟨rfl, rfl, rfl⟩
theorem d8_0 : decode prog_29_method_1_code 0 = .ok (.aload_n 0, 1) := by decide +kernel
theorem d8_1 : decode prog_29_method_1_code 1 = .ok (.invokespecial 1, 3) := by decide +kernel
theorem pd_93421996 : parseMethodDescriptor "()V" = some ⟨[], none⟩ := by decide +kernel
theorem d8_4 : decode prog_29_method_1_code 4 = .ok (.aload_n 1, 1) := by decide +kernel
theorem d8_5 : decode prog_29_method_1_code 5 = .ok (.ldc 7, 2) := by decide +kernel
theorem d8_7 : decode prog_29_method_1_code 7 = .ok (.invokestatic 9, 3) := by decide +kernel
theorem pd_46442454 : parseMethodDescriptor "(Ljava/lang/Object;Ljava/lang/String;)Ljava/lang/Object;" = some ⟨[(.object "java/lang/Object"), (.object "java/lang/String")], some (.object "java/lang/Object")⟩ := by decide +kernel
theorem d8_10 : decode prog_29_method_1_code 10 = .ok (.pop, 1) := by decide +kernel
theorem d8_11 : decode prog_29_method_1_code 11 = .ok (.aload_n 2, 1) := by decide +kernel
theorem d8_12 : decode prog_29_method_1_code 12 = .ok (.ldc 15, 2) := by decide +kernel
theorem d8_14 : decode prog_29_method_1_code 14 = .ok (.invokestatic 9, 3) := by decide +kernel
theorem d8_17 : decode prog_29_method_1_code 17 = .ok (.pop, 1) := by decide +kernel
theorem d8_18 : decode prog_29_method_1_code 18 = .ok (.aload_n 0, 1) := by decide +kernel
theorem d8_19 : decode prog_29_method_1_code 19 = .ok (.aload_n 1, 1) := by decide +kernel
theorem d8_20 : decode prog_29_method_1_code 20 = .ok (.putfield 17, 3) := by decide +kernel
theorem d8_23 : decode prog_29_method_1_code 23 = .ok (.aload_n 0, 1) := by decide +kernel
theorem d8_24 : decode prog_29_method_1_code 24 = .ok (.aload_n 2, 1) := by decide +kernel
theorem d8_25 : decode prog_29_method_1_code 25 = .ok (.putfield 22, 3) := by decide +kernel
theorem d8_28 : decode prog_29_method_1_code 28 = .ok (.return_, 1) := by decide +kernel
theorem pn_30327988 : plainFor (⟨"com/example/precedence/precedence/Problem$Missing", "<init>", "(Ljava/lang/String;Ljava/lang/String;)V"⟩ : MethodName) = true := by first | exact plainFor_of_name (by first | (simp [plainName, overriddenIn]; done) | decide +kernel) | decide +kernel
set_option maxRecDepth 65536 in
set_option maxHeartbeats 4000000 in
theorem ct_minit (G : Own.Gx) (hw : ∀ d ∈ tables_1, d.before G.a0 G.Z = true) (hnw : G.nw = false) (wS : ∀ a ∈ Bundle.stringAtoms, a.before G.a0 G.Z = true) (hcw : Jvm.Lit.compactW.before G.a0 G.Z = true) (hhm7 : Jvm.Lit.constHeld G.Z "com/example/precedence/precedence/Problem$Missing" 7) (hhm15 : Jvm.Lit.constHeld G.Z "com/example/precedence/precedence/Problem$Missing" 15) {As : List Own.Ent} {Li : List Own.LitE} (p s1 s2 : Addr) (hn0 : "member" ∉ Li.map fun q => q.2.2.1) (hn1 : "dependency" ∉ Li.map fun q => q.2.2.1) :
    Own.Ct G [] (⟨"com/example/precedence/precedence/Problem$Missing", "<init>", "(Ljava/lang/String;Ljava/lang/String;)V"⟩ : MethodName) prog_29_method_1_code 3 none ({ frames := 2, cells := 4, slots := 72, locals := 24 } : Room) [.ref p, .ref s1, .ref s2] ((p, true, Own.obj "com/example/precedence/precedence/Problem$Missing" F_com_example_precedence_precedence_Problem_Missing [.null, .null]) :: As) Li (fun v A L => ∃ A0, v = none ∧ A = (p, true, Own.obj "com/example/precedence/precedence/Problem$Missing" F_com_example_precedence_precedence_Problem_Missing [.ref s1, .ref s2]) :: A0 ∧ Own.Sub As A0 ∧ Own.LX ["member", "dependency"] Li L) := by
  refine Own.Ct.intro pn_30327988 (Ls := [.val (.ref p), .val (.ref s1), .val (.ref s2)]) rfl rfl ?_
  intro K
  refine Own.W.aloadN (pc := 0) d8_0 rfl rfl ?_
  refine Own.W.callI (pc := 1) (ct_rec G hw p) d8_1 rfl (hw _ (List.mem_of_getElem? (i := 43) rfl)) (hw _ (List.mem_of_getElem? (i := 44) rfl)) (hw _ (List.mem_of_getElem? (i := 46) rfl)) (hw _ (List.mem_of_getElem? (i := 47) rfl)) (by decide) pd_93421996 rfl rfl (Nat.le_of_ble_eq_true rfl) (Nat.le_of_ble_eq_true rfl) (Nat.le_of_ble_eq_true rfl) (Nat.le_of_ble_eq_true rfl) ?_
  rintro _ _ _ ⟨rfl, rfl, rfl⟩
  refine Own.W.aloadN (pc := 4) d8_4 rfl rfl ?_
  refine Own.W.ldcT (pc := 5) (n := 24) (vs := (Own.txb "member").map Value.int) hnw d8_5 (hw _ (List.mem_of_getElem? (i := 49) rfl)) wS hhm7 hcw hn0 ⟨by decide +kernel, Own.txb_map _⟩ (by decide +kernel) (by decide) (Nat.le_of_ble_eq_true rfl) (Nat.le_of_ble_eq_true rfl) ?_
  intro a5 b5
  refine Own.W.callS (pc := 7) (ct_rn2 G hw s1 a5) d8_7 (hw _ (List.mem_of_getElem? (i := 50) rfl)) (hw _ (List.mem_of_getElem? (i := 51) rfl)) (hw _ (List.mem_of_getElem? (i := 52) rfl)) (hw _ (List.mem_of_getElem? (i := 53) rfl)) (by decide) pd_46442454 rfl rfl (Nat.le_of_ble_eq_true rfl) (Nat.le_of_ble_eq_true rfl) (Nat.le_of_ble_eq_true rfl) (Nat.le_of_ble_eq_true rfl) ?_
  rintro _ _ _ ⟨rfl, rfl, rfl⟩
  refine Own.W.pop (pc := 10) d8_10 rfl ?_
  refine Own.W.aloadN (pc := 11) d8_11 rfl rfl ?_
  refine Own.W.ldcT (pc := 12) (n := 40) (vs := (Own.txb "dependency").map Value.int) hnw d8_12 (hw _ (List.mem_of_getElem? (i := 54) rfl)) wS hhm15 hcw (by simpa using hn1) ⟨by decide +kernel, Own.txb_map _⟩ (by decide +kernel) (by decide) (Nat.le_of_ble_eq_true rfl) (Nat.le_of_ble_eq_true rfl) ?_
  intro a12 b12
  refine Own.W.callS (pc := 14) (ct_rn2 G hw s2 a12) d8_14 (hw _ (List.mem_of_getElem? (i := 50) rfl)) (hw _ (List.mem_of_getElem? (i := 51) rfl)) (hw _ (List.mem_of_getElem? (i := 52) rfl)) (hw _ (List.mem_of_getElem? (i := 53) rfl)) (by decide) pd_46442454 rfl rfl (Nat.le_of_ble_eq_true rfl) (Nat.le_of_ble_eq_true rfl) (Nat.le_of_ble_eq_true rfl) (Nat.le_of_ble_eq_true rfl) ?_
  rintro _ _ _ ⟨rfl, rfl, rfl⟩
  refine Own.W.pop (pc := 17) d8_17 rfl ?_
  refine Own.W.aloadN (pc := 18) d8_18 rfl rfl ?_
  refine Own.W.aloadN (pc := 19) d8_19 rfl rfl ?_
  refine Own.W.putF (pc := 20) (host := "") (Or.inl (hw _ (List.mem_of_getElem? (i := 55) rfl))) (Via.refl (O := "com/example/precedence/precedence/Problem$Missing")) d8_20 (Or.inr ⟨(hw _ (List.mem_of_getElem? (i := 56) rfl)), rfl, rfl⟩) (hw _ (List.mem_of_getElem? (i := 38) rfl)) (ty := (.object "java/lang/String")) (by decide) rfl rfl (by repeat (first | exact Own.Upd.head | exact Own.Upd.mid | apply Own.Upd.tail)) (by repeat (first | exact Own.FUp.head | apply Own.FUp.tail)) ?_
  refine Own.W.aloadN (pc := 23) d8_23 rfl rfl ?_
  refine Own.W.aloadN (pc := 24) d8_24 rfl rfl ?_
  refine Own.W.putF (pc := 25) (host := "") (Or.inl (hw _ (List.mem_of_getElem? (i := 57) rfl))) (Via.refl (O := "com/example/precedence/precedence/Problem$Missing")) d8_25 (Or.inr ⟨(hw _ (List.mem_of_getElem? (i := 58) rfl)), rfl, rfl⟩) (hw _ (List.mem_of_getElem? (i := 38) rfl)) (ty := (.object "java/lang/String")) (by decide) rfl rfl (by repeat (first | exact Own.Upd.head | exact Own.Upd.mid | apply Own.Upd.tail)) (by repeat (first | exact Own.FUp.head | apply Own.FUp.tail)) ?_
  refine Own.W.perm ?_ (List.perm_middle (l₁ := [_, _, _, _]))
  refine Own.W.vret (pc := 28) d8_28 rfl  ?_ (Nat.le_of_ble_eq_true rfl) (Nat.le_of_ble_eq_true rfl)
  exact ⟨_, rfl, rfl, Own.Sub.cons (Own.Sub.cons (Own.Sub.cons (Own.Sub.cons (Own.Sub.refl _)))), ⟨[_, _], rfl, by simp⟩⟩
theorem own_g16 {n : Nat} (h : n ≤ 16) : Own.grow 16 n = 16 := Own.grow_le h
theorem own_g34 {n : Nat} (h : 16 < n) (h2 : n ≤ 34) : Own.grow 16 n = 34 := by unfold Own.grow; rw [if_neg (by omega)]; omega
theorem own_g3 {n : Nat} (h2 : n ≤ 34) : Own.grow 34 n = 34 := Own.grow_le h2
theorem d22_0 : decode prog_20_method_2_code 0 = .ok (.new 20, 3) := by decide +kernel
theorem d22_3 : decode prog_20_method_2_code 3 = .ok (.dup, 1) := by decide +kernel
theorem d22_4 : decode prog_20_method_2_code 4 = .ok (.invokespecial 22, 3) := by decide +kernel
theorem d22_7 : decode prog_20_method_2_code 7 = .ok (.ldc 25, 2) := by decide +kernel
theorem d22_9 : decode prog_20_method_2_code 9 = .ok (.invokevirtual 27, 3) := by decide +kernel
theorem pd_35207773 : parseMethodDescriptor "(Ljava/lang/String;)Ljava/lang/StringBuilder;" = some ⟨[(.object "java/lang/String")], some (.object "java/lang/StringBuilder")⟩ := by decide +kernel
theorem d22_12 : decode prog_20_method_2_code 12 = .ok (.aload_n 0, 1) := by decide +kernel
theorem d22_13 : decode prog_20_method_2_code 13 = .ok (.invokevirtual 27, 3) := by decide +kernel
theorem d22_16 : decode prog_20_method_2_code 16 = .ok (.ldc 31, 2) := by decide +kernel
theorem d22_18 : decode prog_20_method_2_code 18 = .ok (.invokevirtual 27, 3) := by decide +kernel
theorem d22_21 : decode prog_20_method_2_code 21 = .ok (.aload_n 1, 1) := by decide +kernel
theorem d22_22 : decode prog_20_method_2_code 22 = .ok (.invokevirtual 27, 3) := by decide +kernel
theorem d22_25 : decode prog_20_method_2_code 25 = .ok (.invokevirtual 33, 3) := by decide +kernel
theorem pd_47462102 : parseMethodDescriptor "()Ljava/lang/String;" = some ⟨[], some (.object "java/lang/String")⟩ := by decide +kernel
theorem d22_28 : decode prog_20_method_2_code 28 = .ok (.areturn, 1) := by decide +kernel
theorem pn_94125902 : plainFor (⟨"com/example/precedence/precedence/MissingDependencyException", "message", "(Ljava/lang/String;Ljava/lang/String;)Ljava/lang/String;"⟩ : MethodName) = true := by first | exact plainFor_of_name (by first | (simp [plainName, overriddenIn]; done) | decide +kernel) | decide +kernel
set_option maxRecDepth 65536 in
set_option maxHeartbeats 4000000 in
theorem ct_msg (G : Own.Gx) (hw : ∀ d ∈ tables_1, d.before G.a0 G.Z = true) (hC : Own.CSt G) (hnw : G.nw = false) (wS : ∀ a ∈ Bundle.stringAtoms, a.before G.a0 G.Z = true) (hcw : Jvm.Lit.compactW.before G.a0 G.Z = true) (hhx25 : Jvm.Lit.constHeld G.Z "com/example/precedence/precedence/MissingDependencyException" 25) (hhx31 : Jvm.Lit.constHeld G.Z "com/example/precedence/precedence/MissingDependencyException" 31) {As : List Own.Ent} {Li : List Own.LitE} (x1 x2 : Addr) (xs ys : List Int32) (hxs : xs.length ≤ 2) (hys : ys.length ≤ 2) (s1 : Own.StrF As x1 (xs.map Value.int)) (s2 : Own.StrF As x2 (ys.map Value.int)) (hn0 : "missing: " ∉ Li.map fun q => q.2.2.1) (hn1 : " depends on " ∉ Li.map fun q => q.2.2.1) :
    Own.Ct G [] (⟨"com/example/precedence/precedence/MissingDependencyException", "message", "(Ljava/lang/String;Ljava/lang/String;)Ljava/lang/String;"⟩ : MethodName) prog_20_method_2_code 2 (some (.object "java/lang/String")) ({ frames := 6, cells := 12, slots := 400, locals := 91 } : Room) [.ref x1, .ref x2] As Li (fun v A L => ∃ s, v = some (.ref s) ∧ Own.StrF A s (((((([] ++ (Own.txb "missing: ")) ++ xs) ++ (Own.txb " depends on ")) ++ ys)).map Value.int) ∧ Own.Sub As A ∧ Own.LX ["missing: ", " depends on "] Li L) := by
  refine Own.Ct.intro pn_94125902 (Ls := [.val (.ref x1), .val (.ref x2)]) rfl rfl ?_
  intro K
  have hlm : (Own.txb "missing: ").length = 9 := by rw [Own.txb_len]; decide +kernel
  have hld : (Own.txb " depends on ").length = 12 := by rw [Own.txb_len]; decide +kernel
  obtain ⟨X, hX⟩ : ∃ X, X = ([] : List Int32) := ⟨_, rfl⟩
  have hl0 : X.length = 0 := by rw [hX]; rfl
  refine Own.W.new (pc := 0) (hw _ (List.mem_of_getElem? (i := 134) rfl)) (hw _ (List.mem_of_getElem? (i := 65) rfl)) (hw _ (List.mem_of_getElem? (i := 66) rfl)) d22_0 (LF_java_lang_StringBuilder G hw) (vs := [.null, .int 0, .int 0]) (by decide) (Nat.le_of_ble_eq_true rfl) (Nat.le_of_ble_eq_true rfl) ?_
  intro o0
  refine Own.W.dup (pc := 3) d22_3 rfl ?_
  refine Own.W.callI (pc := 4) (ct_sbi G hw hC o0) d22_4 rfl (hw _ (List.mem_of_getElem? (i := 135) rfl)) (hw _ (List.mem_of_getElem? (i := 68) rfl)) (hw _ (List.mem_of_getElem? (i := 66) rfl)) (hw _ (List.mem_of_getElem? (i := 69) rfl)) (by decide) pd_93421996 rfl rfl (Nat.le_of_ble_eq_true rfl) (Nat.le_of_ble_eq_true rfl) (Nat.le_of_ble_eq_true rfl) (Nat.le_of_ble_eq_true rfl) ?_
  rintro _ _ _ ⟨b4, rfl, rfl, rfl⟩
  rw [← hX]
  refine Own.W.ldcT (pc := 7) (n := 36) (vs := (Own.txb "missing: ").map Value.int) hnw d22_7 (hw _ (List.mem_of_getElem? (i := 136) rfl)) wS hhx25 hcw hn0 ⟨by decide +kernel, Own.txb_map _⟩ (by decide +kernel) (by decide) (Nat.le_of_ble_eq_true rfl) (Nat.le_of_ble_eq_true rfl) ?_
  intro a7 b7
  refine Own.W.perm ?_ Own.perm22
  refine Own.W.callV (pc := 9) (ct_app G hw hC o0 b4 X 16 (by omega) (by decide) a7 (Own.txb "missing: ") (Own.StrF.lit (List.Mem.head _) (List.Mem.tail _ (List.Mem.head _))) 34 (by omega) (by rw [own_g16 (by omega)]; decide) (by decide)) d22_9 (C := "java/lang/StringBuilder") (Own.Is.mem (by repeat (first | exact List.Mem.head _ | assumption | exact List.mem_append_right _ (List.Mem.head _) | apply List.Mem.tail))) (hw _ (List.mem_of_getElem? (i := 137) rfl)) (hw _ (List.mem_of_getElem? (i := 84) rfl)) (Own.nf_sel (hw _ (List.mem_of_getElem? (i := 86) rfl))) (hw _ (List.mem_of_getElem? (i := 86) rfl)) (hw _ (List.mem_of_getElem? (i := 85) rfl)) (hw _ (List.mem_of_getElem? (i := 66) rfl)) (hw _ (List.mem_of_getElem? (i := 87) rfl)) (by decide) pd_35207773 rfl rfl (Nat.le_of_ble_eq_true rfl) (Nat.le_of_ble_eq_true rfl) (Nat.le_of_ble_eq_true rfl) (by first | exact Nat.le_of_ble_eq_true rfl | (simp; done) | (simp; omega)) ?_
  rintro _ _ _ ⟨bb1, A1, rfl, rfl, hsub1, rfl⟩
  rw [own_g16 (by omega)]
  obtain ⟨X1, hX1⟩ : ∃ Y, Y = X ++ (Own.txb "missing: ") := ⟨_, rfl⟩
  rw [← hX1]
  have hl1 : X1.length = 9 := by rw [hX1, List.length_append, hl0, hlm]
  replace s1 := s1.sub (Own.Sub.trans (Own.Sub.cons (Own.Sub.cons (Own.Sub.refl _))) hsub1)
  replace s2 := s2.sub (Own.Sub.trans (Own.Sub.cons (Own.Sub.cons (Own.Sub.refl _))) hsub1)
  have q1 : Own.Sub As A1 := Own.Sub.trans (Own.Sub.cons (Own.Sub.cons (Own.Sub.refl _))) hsub1
  refine Own.W.aloadN (pc := 12) d22_12 rfl rfl ?_
  refine Own.W.callV (pc := 13) (ct_app G hw hC o0 bb1 X1 16 (by omega) (by decide) x1 xs s1 34 (by omega) (by rw [own_g16 (by omega)]; decide) (by decide)) d22_13 (C := "java/lang/StringBuilder") (Own.Is.mem (by repeat (first | exact List.Mem.head _ | assumption | exact List.mem_append_right _ (List.Mem.head _) | apply List.Mem.tail))) (hw _ (List.mem_of_getElem? (i := 137) rfl)) (hw _ (List.mem_of_getElem? (i := 84) rfl)) (Own.nf_sel (hw _ (List.mem_of_getElem? (i := 86) rfl))) (hw _ (List.mem_of_getElem? (i := 86) rfl)) (hw _ (List.mem_of_getElem? (i := 85) rfl)) (hw _ (List.mem_of_getElem? (i := 66) rfl)) (hw _ (List.mem_of_getElem? (i := 87) rfl)) (by decide) pd_35207773 rfl rfl (Nat.le_of_ble_eq_true rfl) (Nat.le_of_ble_eq_true rfl) (Nat.le_of_ble_eq_true rfl) (by first | exact Nat.le_of_ble_eq_true rfl | (simp; done) | (simp; omega)) ?_
  rintro _ _ _ ⟨bb2, A2, rfl, rfl, hsub2, rfl⟩
  rw [own_g16 (by omega)]
  obtain ⟨X2, hX2⟩ : ∃ Y, Y = X1 ++ xs := ⟨_, rfl⟩
  rw [← hX2]
  have hl2 : X2.length = 9 + xs.length := by rw [hX2, List.length_append, hl1]
  replace s2 := s2.sub hsub2
  replace q1 := q1.trans hsub2
  refine Own.W.ldcT (pc := 16) (n := 48) (vs := (Own.txb " depends on ").map Value.int) hnw d22_16 (hw _ (List.mem_of_getElem? (i := 138) rfl)) wS hhx31 hcw (by simpa using hn1) ⟨by decide +kernel, Own.txb_map _⟩ (by decide +kernel) (by decide) (Nat.le_of_ble_eq_true rfl) (Nat.le_of_ble_eq_true rfl) ?_
  intro a16 b16
  refine Own.W.perm ?_ Own.perm22
  refine Own.W.callV (pc := 18) (ct_app G hw hC o0 bb2 X2 16 (by omega) (by decide) a16 (Own.txb " depends on ") (Own.StrF.lit (List.Mem.head _) (List.Mem.tail _ (List.Mem.head _))) 34 (by omega) (by rw [own_g34 (by omega) (by omega)]; decide) (by decide)) d22_18 (C := "java/lang/StringBuilder") (Own.Is.mem (by repeat (first | exact List.Mem.head _ | assumption | exact List.mem_append_right _ (List.Mem.head _) | apply List.Mem.tail))) (hw _ (List.mem_of_getElem? (i := 137) rfl)) (hw _ (List.mem_of_getElem? (i := 84) rfl)) (Own.nf_sel (hw _ (List.mem_of_getElem? (i := 86) rfl))) (hw _ (List.mem_of_getElem? (i := 86) rfl)) (hw _ (List.mem_of_getElem? (i := 85) rfl)) (hw _ (List.mem_of_getElem? (i := 66) rfl)) (hw _ (List.mem_of_getElem? (i := 87) rfl)) (by decide) pd_35207773 rfl rfl (Nat.le_of_ble_eq_true rfl) (Nat.le_of_ble_eq_true rfl) (Nat.le_of_ble_eq_true rfl) (by first | exact Nat.le_of_ble_eq_true rfl | (simp; done) | (simp; omega)) ?_
  rintro _ _ _ ⟨bb3, A3, rfl, rfl, hsub3, rfl⟩
  rw [own_g34 (by omega) (by omega)]
  obtain ⟨X3, hX3⟩ : ∃ Y, Y = X2 ++ (Own.txb " depends on ") := ⟨_, rfl⟩
  rw [← hX3]
  have hl3 : X3.length = 21 + xs.length := by rw [hX3, List.length_append, hl2, hld, show 9 + xs.length + 12 = 21 + xs.length from by omega]
  replace s2 := s2.sub (Own.Sub.trans (Own.Sub.cons (Own.Sub.cons (Own.Sub.refl _))) hsub3)
  replace q1 := q1.trans (Own.Sub.trans (Own.Sub.cons (Own.Sub.cons (Own.Sub.refl _))) hsub3)
  refine Own.W.aloadN (pc := 21) d22_21 rfl rfl ?_
  refine Own.W.callV (pc := 22) (ct_app G hw hC o0 bb3 X3 34 (by omega) (by decide) x2 ys s2 34 (by omega) (by rw [own_g3 (by omega)]; decide) (by decide)) d22_22 (C := "java/lang/StringBuilder") (Own.Is.mem (by repeat (first | exact List.Mem.head _ | assumption | exact List.mem_append_right _ (List.Mem.head _) | apply List.Mem.tail))) (hw _ (List.mem_of_getElem? (i := 137) rfl)) (hw _ (List.mem_of_getElem? (i := 84) rfl)) (Own.nf_sel (hw _ (List.mem_of_getElem? (i := 86) rfl))) (hw _ (List.mem_of_getElem? (i := 86) rfl)) (hw _ (List.mem_of_getElem? (i := 85) rfl)) (hw _ (List.mem_of_getElem? (i := 66) rfl)) (hw _ (List.mem_of_getElem? (i := 87) rfl)) (by decide) pd_35207773 rfl rfl (Nat.le_of_ble_eq_true rfl) (Nat.le_of_ble_eq_true rfl) (Nat.le_of_ble_eq_true rfl) (by first | exact Nat.le_of_ble_eq_true rfl | (simp; done) | (simp; omega)) ?_
  rintro _ _ _ ⟨bb4, A4, rfl, rfl, hsub4, rfl⟩
  rw [own_g3 (by omega)]
  obtain ⟨X4, hX4⟩ : ∃ Y, Y = X3 ++ ys := ⟨_, rfl⟩
  rw [← hX4]
  have hl4 : X4.length = 21 + xs.length + ys.length := by rw [hX4, List.length_append, hl3]
  replace q1 := q1.trans hsub4
  refine Own.W.callV (pc := 25) (ct_tos G hw hC o0 bb4 X4 34 (by omega) (by decide) (by omega) 34 (by omega) (by decide)) d22_25 (C := "java/lang/StringBuilder") (Own.Is.mem (by repeat (first | exact List.Mem.head _ | assumption | exact List.mem_append_right _ (List.Mem.head _) | apply List.Mem.tail))) (hw _ (List.mem_of_getElem? (i := 162) rfl)) (hw _ (List.mem_of_getElem? (i := 163) rfl)) (Own.nf_sel (hw _ (List.mem_of_getElem? (i := 165) rfl))) (hw _ (List.mem_of_getElem? (i := 165) rfl)) (hw _ (List.mem_of_getElem? (i := 164) rfl)) (hw _ (List.mem_of_getElem? (i := 66) rfl)) (hw _ (List.mem_of_getElem? (i := 166) rfl)) (by decide) pd_47462102 rfl rfl (Nat.le_of_ble_eq_true rfl) (Nat.le_of_ble_eq_true rfl) (Nat.le_of_ble_eq_true rfl) (by first | exact Nat.le_of_ble_eq_true rfl | (simp; done) | (simp; omega)) ?_
  rintro _ A5 _ ⟨s, rfl, hs5, hsub5, rfl⟩
  refine Own.W.aret (pc := 28) d22_28 rfl rfl rfl ?_ (Nat.le_of_ble_eq_true rfl) (Nat.le_of_ble_eq_true rfl)
  exact ⟨s, rfl, by subst hX4; subst hX3; subst hX2; subst hX1; subst hX; exact hs5, q1.trans hsub5, ⟨[_, _], rfl, by simp⟩⟩
theorem d11_0 : decode prog_29_method_3_code 0 = .ok (.new 30, 3) := by decide +kernel
theorem d11_3 : decode prog_29_method_3_code 3 = .ok (.dup, 1) := by decide +kernel
theorem d11_4 : decode prog_29_method_3_code 4 = .ok (.invokespecial 32, 3) := by decide +kernel
theorem d11_7 : decode prog_29_method_3_code 7 = .ok (.ldc 33, 2) := by decide +kernel
theorem d11_9 : decode prog_29_method_3_code 9 = .ok (.invokevirtual 35, 3) := by decide +kernel
theorem d11_12 : decode prog_29_method_3_code 12 = .ok (.aload_n 0, 1) := by decide +kernel
theorem d11_13 : decode prog_29_method_3_code 13 = .ok (.getfield 17, 3) := by decide +kernel
theorem d11_16 : decode prog_29_method_3_code 16 = .ok (.aload_n 0, 1) := by decide +kernel
theorem d11_17 : decode prog_29_method_3_code 17 = .ok (.getfield 22, 3) := by decide +kernel
theorem d11_20 : decode prog_29_method_3_code 20 = .ok (.invokestatic 39, 3) := by decide +kernel
theorem pd_49415126 : parseMethodDescriptor "(Ljava/lang/String;Ljava/lang/String;)Ljava/lang/String;" = some ⟨[(.object "java/lang/String"), (.object "java/lang/String")], some (.object "java/lang/String")⟩ := by decide +kernel
theorem d11_23 : decode prog_29_method_3_code 23 = .ok (.invokevirtual 35, 3) := by decide +kernel
theorem d11_26 : decode prog_29_method_3_code 26 = .ok (.invokevirtual 45, 3) := by decide +kernel
theorem d11_29 : decode prog_29_method_3_code 29 = .ok (.areturn, 1) := by decide +kernel
theorem pn_99981016 : plainFor (⟨"com/example/precedence/precedence/Problem$Missing", "line", "()Ljava/lang/String;"⟩ : MethodName) = true := by first | exact plainFor_of_name (by first | (simp [plainName, overriddenIn]; done) | decide +kernel) | decide +kernel
set_option maxRecDepth 65536 in
set_option maxHeartbeats 4000000 in
theorem ct_line (G : Own.Gx) (hw : ∀ d ∈ tables_1, d.before G.a0 G.Z = true) (hC : Own.CSt G) (hnw : G.nw = false) (wS : ∀ a ∈ Bundle.stringAtoms, a.before G.a0 G.Z = true) (hcw : Jvm.Lit.compactW.before G.a0 G.Z = true) (hhx25 : Jvm.Lit.constHeld G.Z "com/example/precedence/precedence/MissingDependencyException" 25) (hhx31 : Jvm.Lit.constHeld G.Z "com/example/precedence/precedence/MissingDependencyException" 31) (hhm33 : Jvm.Lit.constHeld G.Z "com/example/precedence/precedence/Problem$Missing" 33) {As : List Own.Ent} {Li : List Own.LitE} (p : Addr) (x1 x2 : Addr) (xs ys : List Int32) (hxs : xs.length ≤ 2) (hys : ys.length ≤ 2) (s1 : Own.StrF As x1 (xs.map Value.int)) (s2 : Own.StrF As x2 (ys.map Value.int)) {w : Bool} (hp : (p, w, Own.obj "com/example/precedence/precedence/Problem$Missing" F_com_example_precedence_precedence_Problem_Missing [.ref x1, .ref x2]) ∈ As) (hn0 : "missing: " ∉ Li.map fun q => q.2.2.1) (hn1 : " depends on " ∉ Li.map fun q => q.2.2.1) (hn2 : "start: " ∉ Li.map fun q => q.2.2.1) :
    Own.Ct G [] (⟨"com/example/precedence/precedence/Problem$Missing", "line", "()Ljava/lang/String;"⟩ : MethodName) prog_29_method_3_code 1 (some (.object "java/lang/String")) ({ frames := 7, cells := 24, slots := 800, locals := 105 } : Room) [.ref p] As Li (fun v A L => ∃ s, v = some (.ref s) ∧ Own.StrF A s ((([] ++ (Own.txb "start: ")) ++ ((((([] ++ (Own.txb "missing: ")) ++ xs) ++ (Own.txb " depends on ")) ++ ys))).map Value.int) ∧ Own.Stay As A) := by
  refine Own.Ct.intro pn_99981016 (Ls := [.val (.ref p)]) rfl rfl ?_
  intro K
  have hls : (Own.txb "start: ").length = 7 := by rw [Own.txb_len]; decide +kernel
  obtain ⟨X, hX⟩ : ∃ X, X = ([] : List Int32) := ⟨_, rfl⟩
  have hl0 : X.length = 0 := by rw [hX]; rfl
  refine Own.W.new (pc := 0) (hw _ (List.mem_of_getElem? (i := 64) rfl)) (hw _ (List.mem_of_getElem? (i := 65) rfl)) (hw _ (List.mem_of_getElem? (i := 66) rfl)) d11_0 (LF_java_lang_StringBuilder G hw) (vs := [.null, .int 0, .int 0]) (by decide) (Nat.le_of_ble_eq_true rfl) (Nat.le_of_ble_eq_true rfl) ?_
  intro o0
  refine Own.W.dup (pc := 3) d11_3 rfl ?_
  refine Own.W.callI (pc := 4) (ct_sbi G hw hC o0) d11_4 rfl (hw _ (List.mem_of_getElem? (i := 67) rfl)) (hw _ (List.mem_of_getElem? (i := 68) rfl)) (hw _ (List.mem_of_getElem? (i := 66) rfl)) (hw _ (List.mem_of_getElem? (i := 69) rfl)) (by decide) pd_93421996 rfl rfl (Nat.le_of_ble_eq_true rfl) (Nat.le_of_ble_eq_true rfl) (Nat.le_of_ble_eq_true rfl) (Nat.le_of_ble_eq_true rfl) ?_
  rintro _ _ _ ⟨b4, rfl, rfl, rfl⟩
  rw [← hX]
  refine Own.W.ldcT (pc := 7) (n := 28) (vs := (Own.txb "start: ").map Value.int) hnw d11_7 (hw _ (List.mem_of_getElem? (i := 82) rfl)) wS hhm33 hcw hn2 ⟨by decide +kernel, Own.txb_map _⟩ (by decide +kernel) (by decide) (Nat.le_of_ble_eq_true rfl) (Nat.le_of_ble_eq_true rfl) ?_
  intro a7 b7
  refine Own.W.perm ?_ Own.perm22
  refine Own.W.callV (pc := 9) (ct_app G hw hC o0 b4 X 16 (by omega) (by decide) a7 (Own.txb "start: ") (Own.StrF.lit (List.Mem.head _) (List.Mem.tail _ (List.Mem.head _))) 34 (by omega) (by rw [own_g16 (by omega)]; decide) (by decide)) d11_9 (C := "java/lang/StringBuilder") (Own.Is.mem (by repeat (first | exact List.Mem.head _ | assumption | exact List.mem_append_right _ (List.Mem.head _) | apply List.Mem.tail))) (hw _ (List.mem_of_getElem? (i := 83) rfl)) (hw _ (List.mem_of_getElem? (i := 84) rfl)) (Own.nf_sel (hw _ (List.mem_of_getElem? (i := 86) rfl))) (hw _ (List.mem_of_getElem? (i := 86) rfl)) (hw _ (List.mem_of_getElem? (i := 85) rfl)) (hw _ (List.mem_of_getElem? (i := 66) rfl)) (hw _ (List.mem_of_getElem? (i := 87) rfl)) (by decide) pd_35207773 rfl rfl (Nat.le_of_ble_eq_true rfl) (Nat.le_of_ble_eq_true rfl) (Nat.le_of_ble_eq_true rfl) (by first | exact Nat.le_of_ble_eq_true rfl | (simp; done) | (simp; omega)) ?_
  rintro _ _ _ ⟨bb1, A1, rfl, rfl, hsub1, rfl⟩
  rw [own_g16 (by omega)]
  obtain ⟨X1, hX1⟩ : ∃ Y, Y = X ++ (Own.txb "start: ") := ⟨_, rfl⟩
  rw [← hX1]
  have hl1 : X1.length = 7 := by rw [hX1, List.length_append, hl0, hls]
  replace hp := (Own.Sub.trans (Own.Sub.cons (Own.Sub.cons (Own.Sub.refl _))) hsub1) _ hp
  replace s1 := s1.sub (Own.Sub.trans (Own.Sub.cons (Own.Sub.cons (Own.Sub.refl _))) hsub1)
  replace s2 := s2.sub (Own.Sub.trans (Own.Sub.cons (Own.Sub.cons (Own.Sub.refl _))) hsub1)
  have q1 : Own.Sub As A1 := (Own.Sub.trans (Own.Sub.cons (Own.Sub.cons (Own.Sub.refl _))) hsub1)
  refine Own.W.aloadN (pc := 12) d11_12 rfl rfl ?_
  refine Own.W.getF (pc := 13) (host := "") (Or.inl (hw _ (List.mem_of_getElem? (i := 55) rfl))) (Via.refl (O := "com/example/precedence/precedence/Problem$Missing")) d11_13 (List.Mem.tail _ (List.Mem.tail _ hp)) (by repeat (first | exact Own.FAt.head | apply Own.FAt.tail)) ?_
  refine Own.W.aloadN (pc := 16) d11_16 rfl rfl ?_
  refine Own.W.getF (pc := 17) (host := "") (Or.inl (hw _ (List.mem_of_getElem? (i := 57) rfl))) (Via.refl (O := "com/example/precedence/precedence/Problem$Missing")) d11_17 (List.Mem.tail _ (List.Mem.tail _ hp)) (by repeat (first | exact Own.FAt.head | apply Own.FAt.tail)) ?_
  refine Own.W.callS (pc := 20) (ct_msg G hw hC hnw wS hcw hhx25 hhx31 x1 x2 xs ys hxs hys (s1.sub (Own.Sub.cons (Own.Sub.cons (Own.Sub.refl _)))) (s2.sub (Own.Sub.cons (Own.Sub.cons (Own.Sub.refl _)))) (by simpa using hn0) (by simpa using hn1)) d11_20 (hw _ (List.mem_of_getElem? (i := 130) rfl)) (hw _ (List.mem_of_getElem? (i := 131) rfl)) (hw _ (List.mem_of_getElem? (i := 132) rfl)) (hw _ (List.mem_of_getElem? (i := 133) rfl)) (by decide) pd_49415126 rfl rfl (Nat.le_of_ble_eq_true rfl) (Nat.le_of_ble_eq_true rfl) (Nat.le_of_ble_eq_true rfl) (Nat.le_of_ble_eq_true rfl) ?_
  rintro _ A2 L2 ⟨s, rfl, hs, hsub2, hlx⟩
  obtain ⟨A3, hperm⟩ := Own.two_front (hsub2 _ (List.Mem.head _)) (hsub2 _ (List.Mem.tail _ (List.Mem.head _))) (by simp)
  refine Own.W.perm ?_ hperm
  have hs3 := hs.front hperm rfl rfl
  obtain ⟨M, hM⟩ : ∃ M, M = ((((([] ++ (Own.txb "missing: ")) ++ xs) ++ (Own.txb " depends on ")) ++ ys)) := ⟨_, rfl⟩
  rw [← hM] at hs3
  have hlM : M.length = 21 + xs.length + ys.length := by rw [hM]; simp only [List.length_append, List.length_nil, Own.txb_len]; simp; omega
  refine Own.W.callV (pc := 23) (ct_app G hw hC o0 bb1 X1 16 (by omega) (by decide) s M hs3 34 (by omega) (by rw [own_g34 (by omega) (by omega)]; decide) (by decide)) d11_23 (C := "java/lang/StringBuilder") (Own.Is.mem (by repeat (first | exact List.Mem.head _ | assumption | exact List.mem_append_right _ (List.Mem.head _) | apply List.Mem.tail))) (hw _ (List.mem_of_getElem? (i := 83) rfl)) (hw _ (List.mem_of_getElem? (i := 84) rfl)) (Own.nf_sel (hw _ (List.mem_of_getElem? (i := 86) rfl))) (hw _ (List.mem_of_getElem? (i := 86) rfl)) (hw _ (List.mem_of_getElem? (i := 85) rfl)) (hw _ (List.mem_of_getElem? (i := 66) rfl)) (hw _ (List.mem_of_getElem? (i := 87) rfl)) (by decide) pd_35207773 rfl rfl (Nat.le_of_ble_eq_true rfl) (Nat.le_of_ble_eq_true rfl) (Nat.le_of_ble_eq_true rfl) (by first | exact Nat.le_of_ble_eq_true rfl | (simp; done) | (simp; omega)) ?_
  rintro _ _ _ ⟨bb4, A4, rfl, rfl, hsub4, rfl⟩
  rw [own_g34 (by omega) (by omega)]
  obtain ⟨X4, hX4⟩ : ∃ Y, Y = X1 ++ M := ⟨_, rfl⟩
  rw [← hX4]
  have hl4 : X4.length = 28 + xs.length + ys.length := by rw [hX4, List.length_append, hl1, hlM, show 7 + (21 + xs.length + ys.length) = 28 + xs.length + ys.length from by omega]
  refine Own.W.callV (pc := 26) (ct_tos G hw hC o0 bb4 X4 34 (by omega) (by decide) (by omega) 34 (by omega) (by decide)) d11_26 (C := "java/lang/StringBuilder") (Own.Is.mem (by repeat (first | exact List.Mem.head _ | assumption | exact List.mem_append_right _ (List.Mem.head _) | apply List.Mem.tail))) (hw _ (List.mem_of_getElem? (i := 201) rfl)) (hw _ (List.mem_of_getElem? (i := 163) rfl)) (Own.nf_sel (hw _ (List.mem_of_getElem? (i := 165) rfl))) (hw _ (List.mem_of_getElem? (i := 165) rfl)) (hw _ (List.mem_of_getElem? (i := 164) rfl)) (hw _ (List.mem_of_getElem? (i := 66) rfl)) (hw _ (List.mem_of_getElem? (i := 166) rfl)) (by decide) pd_47462102 rfl rfl (Nat.le_of_ble_eq_true rfl) (Nat.le_of_ble_eq_true rfl) (Nat.le_of_ble_eq_true rfl) (by first | exact Nat.le_of_ble_eq_true rfl | (simp; done) | (simp; omega)) ?_
  rintro _ A5 _ ⟨r, rfl, hs5, hsub5, rfl⟩
  refine Own.W.aret (pc := 29) d11_29 rfl rfl rfl ?_ (Nat.le_of_ble_eq_true rfl) (Nat.le_of_ble_eq_true rfl)
  exact ⟨r, rfl, by subst hX4; subst hM; subst hX1; subst hX; exact hs5, fun e he hw => hsub5 _ (hsub4 _ (Own.in_front hperm rfl rfl (hsub2 _ (List.Mem.tail _ (List.Mem.tail _ (q1 _ he)))) hw))⟩
def own_s (f a b : Int32) : List Int32 := if f = 0 then [a, b] else []
def own_exp (f g a b d e : Int32) : List Int32 := [115, 116, 97, 114, 116, 58, 32, 109, 105, 115, 115, 105, 110, 103, 58, 32] ++ (own_s f a b ++ ([32, 100, 101, 112, 101, 110, 100, 115, 32, 111, 110, 32] ++ own_s g d e))
theorem d7_0 : decode method_3_code 0 = .ok (.iload_n 0, 1) := by decide +kernel
theorem d7_1 : decode method_3_code 1 = .ok (.ifCond .ne 196, 3) := by decide +kernel
theorem d7_4 : decode method_3_code 4 = .ok (.iload_n 1, 1) := by decide +kernel
theorem d7_5 : decode method_3_code 5 = .ok (.ifCond .ne 192, 3) := by decide +kernel
theorem d7_8 : decode method_3_code 8 = .ok (.bipush 32, 2) := by decide +kernel
theorem d7_10 : decode method_3_code 10 = .ok (.newarray .char, 2) := by decide +kernel
theorem d7_12 : decode method_3_code 12 = .ok (.dup, 1) := by decide +kernel
theorem d7_13 : decode method_3_code 13 = .ok (.iconst 0, 1) := by decide +kernel
theorem d7_14 : decode method_3_code 14 = .ok (.bipush 115, 2) := by decide +kernel
theorem d7_16 : decode method_3_code 16 = .ok (.castore, 1) := by decide +kernel
theorem d7_17 : decode method_3_code 17 = .ok (.dup, 1) := by decide +kernel
theorem d7_18 : decode method_3_code 18 = .ok (.iconst 1, 1) := by decide +kernel
theorem d7_19 : decode method_3_code 19 = .ok (.bipush 116, 2) := by decide +kernel
theorem d7_21 : decode method_3_code 21 = .ok (.castore, 1) := by decide +kernel
theorem d7_22 : decode method_3_code 22 = .ok (.dup, 1) := by decide +kernel
theorem d7_23 : decode method_3_code 23 = .ok (.iconst 2, 1) := by decide +kernel
theorem d7_24 : decode method_3_code 24 = .ok (.bipush 97, 2) := by decide +kernel
theorem d7_26 : decode method_3_code 26 = .ok (.castore, 1) := by decide +kernel
theorem d7_27 : decode method_3_code 27 = .ok (.dup, 1) := by decide +kernel
theorem d7_28 : decode method_3_code 28 = .ok (.iconst 3, 1) := by decide +kernel
theorem d7_29 : decode method_3_code 29 = .ok (.bipush 114, 2) := by decide +kernel
theorem d7_31 : decode method_3_code 31 = .ok (.castore, 1) := by decide +kernel
theorem d7_32 : decode method_3_code 32 = .ok (.dup, 1) := by decide +kernel
theorem d7_33 : decode method_3_code 33 = .ok (.iconst 4, 1) := by decide +kernel
theorem d7_34 : decode method_3_code 34 = .ok (.bipush 116, 2) := by decide +kernel
theorem d7_36 : decode method_3_code 36 = .ok (.castore, 1) := by decide +kernel
theorem d7_37 : decode method_3_code 37 = .ok (.dup, 1) := by decide +kernel
theorem d7_38 : decode method_3_code 38 = .ok (.iconst 5, 1) := by decide +kernel
theorem d7_39 : decode method_3_code 39 = .ok (.bipush 58, 2) := by decide +kernel
theorem d7_41 : decode method_3_code 41 = .ok (.castore, 1) := by decide +kernel
theorem d7_42 : decode method_3_code 42 = .ok (.dup, 1) := by decide +kernel
theorem d7_43 : decode method_3_code 43 = .ok (.bipush 6, 2) := by decide +kernel
theorem d7_45 : decode method_3_code 45 = .ok (.bipush 32, 2) := by decide +kernel
theorem d7_47 : decode method_3_code 47 = .ok (.castore, 1) := by decide +kernel
theorem d7_48 : decode method_3_code 48 = .ok (.dup, 1) := by decide +kernel
theorem d7_49 : decode method_3_code 49 = .ok (.bipush 7, 2) := by decide +kernel
theorem d7_51 : decode method_3_code 51 = .ok (.bipush 109, 2) := by decide +kernel
theorem d7_53 : decode method_3_code 53 = .ok (.castore, 1) := by decide +kernel
theorem d7_54 : decode method_3_code 54 = .ok (.dup, 1) := by decide +kernel
theorem d7_55 : decode method_3_code 55 = .ok (.bipush 8, 2) := by decide +kernel
theorem d7_57 : decode method_3_code 57 = .ok (.bipush 105, 2) := by decide +kernel
theorem d7_59 : decode method_3_code 59 = .ok (.castore, 1) := by decide +kernel
theorem d7_60 : decode method_3_code 60 = .ok (.dup, 1) := by decide +kernel
theorem d7_61 : decode method_3_code 61 = .ok (.bipush 9, 2) := by decide +kernel
theorem d7_63 : decode method_3_code 63 = .ok (.bipush 115, 2) := by decide +kernel
theorem d7_65 : decode method_3_code 65 = .ok (.castore, 1) := by decide +kernel
theorem d7_66 : decode method_3_code 66 = .ok (.dup, 1) := by decide +kernel
theorem d7_67 : decode method_3_code 67 = .ok (.bipush 10, 2) := by decide +kernel
theorem d7_69 : decode method_3_code 69 = .ok (.bipush 115, 2) := by decide +kernel
theorem d7_71 : decode method_3_code 71 = .ok (.castore, 1) := by decide +kernel
theorem d7_72 : decode method_3_code 72 = .ok (.dup, 1) := by decide +kernel
theorem d7_73 : decode method_3_code 73 = .ok (.bipush 11, 2) := by decide +kernel
theorem d7_75 : decode method_3_code 75 = .ok (.bipush 105, 2) := by decide +kernel
theorem d7_77 : decode method_3_code 77 = .ok (.castore, 1) := by decide +kernel
theorem d7_78 : decode method_3_code 78 = .ok (.dup, 1) := by decide +kernel
theorem d7_79 : decode method_3_code 79 = .ok (.bipush 12, 2) := by decide +kernel
theorem d7_81 : decode method_3_code 81 = .ok (.bipush 110, 2) := by decide +kernel
theorem d7_83 : decode method_3_code 83 = .ok (.castore, 1) := by decide +kernel
theorem d7_84 : decode method_3_code 84 = .ok (.dup, 1) := by decide +kernel
theorem d7_85 : decode method_3_code 85 = .ok (.bipush 13, 2) := by decide +kernel
theorem d7_87 : decode method_3_code 87 = .ok (.bipush 103, 2) := by decide +kernel
theorem d7_89 : decode method_3_code 89 = .ok (.castore, 1) := by decide +kernel
theorem d7_90 : decode method_3_code 90 = .ok (.dup, 1) := by decide +kernel
theorem d7_91 : decode method_3_code 91 = .ok (.bipush 14, 2) := by decide +kernel
theorem d7_93 : decode method_3_code 93 = .ok (.bipush 58, 2) := by decide +kernel
theorem d7_95 : decode method_3_code 95 = .ok (.castore, 1) := by decide +kernel
theorem d7_96 : decode method_3_code 96 = .ok (.dup, 1) := by decide +kernel
theorem d7_97 : decode method_3_code 97 = .ok (.bipush 15, 2) := by decide +kernel
theorem d7_99 : decode method_3_code 99 = .ok (.bipush 32, 2) := by decide +kernel
theorem d7_101 : decode method_3_code 101 = .ok (.castore, 1) := by decide +kernel
theorem d7_102 : decode method_3_code 102 = .ok (.dup, 1) := by decide +kernel
theorem d7_103 : decode method_3_code 103 = .ok (.bipush 16, 2) := by decide +kernel
theorem d7_105 : decode method_3_code 105 = .ok (.iload_n 2, 1) := by decide +kernel
theorem d7_106 : decode method_3_code 106 = .ok (.castore, 1) := by decide +kernel
theorem d7_107 : decode method_3_code 107 = .ok (.dup, 1) := by decide +kernel
theorem d7_108 : decode method_3_code 108 = .ok (.bipush 17, 2) := by decide +kernel
theorem d7_110 : decode method_3_code 110 = .ok (.iload_n 3, 1) := by decide +kernel
theorem d7_111 : decode method_3_code 111 = .ok (.castore, 1) := by decide +kernel
theorem d7_112 : decode method_3_code 112 = .ok (.dup, 1) := by decide +kernel
theorem d7_113 : decode method_3_code 113 = .ok (.bipush 18, 2) := by decide +kernel
theorem d7_115 : decode method_3_code 115 = .ok (.bipush 32, 2) := by decide +kernel
theorem d7_117 : decode method_3_code 117 = .ok (.castore, 1) := by decide +kernel
theorem d7_118 : decode method_3_code 118 = .ok (.dup, 1) := by decide +kernel
theorem d7_119 : decode method_3_code 119 = .ok (.bipush 19, 2) := by decide +kernel
theorem d7_121 : decode method_3_code 121 = .ok (.bipush 100, 2) := by decide +kernel
theorem d7_123 : decode method_3_code 123 = .ok (.castore, 1) := by decide +kernel
theorem d7_124 : decode method_3_code 124 = .ok (.dup, 1) := by decide +kernel
theorem d7_125 : decode method_3_code 125 = .ok (.bipush 20, 2) := by decide +kernel
theorem d7_127 : decode method_3_code 127 = .ok (.bipush 101, 2) := by decide +kernel
theorem d7_129 : decode method_3_code 129 = .ok (.castore, 1) := by decide +kernel
theorem d7_130 : decode method_3_code 130 = .ok (.dup, 1) := by decide +kernel
theorem d7_131 : decode method_3_code 131 = .ok (.bipush 21, 2) := by decide +kernel
theorem d7_133 : decode method_3_code 133 = .ok (.bipush 112, 2) := by decide +kernel
theorem d7_135 : decode method_3_code 135 = .ok (.castore, 1) := by decide +kernel
theorem d7_136 : decode method_3_code 136 = .ok (.dup, 1) := by decide +kernel
theorem d7_137 : decode method_3_code 137 = .ok (.bipush 22, 2) := by decide +kernel
theorem d7_139 : decode method_3_code 139 = .ok (.bipush 101, 2) := by decide +kernel
theorem d7_141 : decode method_3_code 141 = .ok (.castore, 1) := by decide +kernel
theorem d7_142 : decode method_3_code 142 = .ok (.dup, 1) := by decide +kernel
theorem d7_143 : decode method_3_code 143 = .ok (.bipush 23, 2) := by decide +kernel
theorem d7_145 : decode method_3_code 145 = .ok (.bipush 110, 2) := by decide +kernel
theorem d7_147 : decode method_3_code 147 = .ok (.castore, 1) := by decide +kernel
theorem d7_148 : decode method_3_code 148 = .ok (.dup, 1) := by decide +kernel
theorem d7_149 : decode method_3_code 149 = .ok (.bipush 24, 2) := by decide +kernel
theorem d7_151 : decode method_3_code 151 = .ok (.bipush 100, 2) := by decide +kernel
theorem d7_153 : decode method_3_code 153 = .ok (.castore, 1) := by decide +kernel
theorem d7_154 : decode method_3_code 154 = .ok (.dup, 1) := by decide +kernel
theorem d7_155 : decode method_3_code 155 = .ok (.bipush 25, 2) := by decide +kernel
theorem d7_157 : decode method_3_code 157 = .ok (.bipush 115, 2) := by decide +kernel
theorem d7_159 : decode method_3_code 159 = .ok (.castore, 1) := by decide +kernel
theorem d7_160 : decode method_3_code 160 = .ok (.dup, 1) := by decide +kernel
theorem d7_161 : decode method_3_code 161 = .ok (.bipush 26, 2) := by decide +kernel
theorem d7_163 : decode method_3_code 163 = .ok (.bipush 32, 2) := by decide +kernel
theorem d7_165 : decode method_3_code 165 = .ok (.castore, 1) := by decide +kernel
theorem d7_166 : decode method_3_code 166 = .ok (.dup, 1) := by decide +kernel
theorem d7_167 : decode method_3_code 167 = .ok (.bipush 27, 2) := by decide +kernel
theorem d7_169 : decode method_3_code 169 = .ok (.bipush 111, 2) := by decide +kernel
theorem d7_171 : decode method_3_code 171 = .ok (.castore, 1) := by decide +kernel
theorem d7_172 : decode method_3_code 172 = .ok (.dup, 1) := by decide +kernel
theorem d7_173 : decode method_3_code 173 = .ok (.bipush 28, 2) := by decide +kernel
theorem d7_175 : decode method_3_code 175 = .ok (.bipush 110, 2) := by decide +kernel
theorem d7_177 : decode method_3_code 177 = .ok (.castore, 1) := by decide +kernel
theorem d7_178 : decode method_3_code 178 = .ok (.dup, 1) := by decide +kernel
theorem d7_179 : decode method_3_code 179 = .ok (.bipush 29, 2) := by decide +kernel
theorem d7_181 : decode method_3_code 181 = .ok (.bipush 32, 2) := by decide +kernel
theorem d7_183 : decode method_3_code 183 = .ok (.castore, 1) := by decide +kernel
theorem d7_184 : decode method_3_code 184 = .ok (.dup, 1) := by decide +kernel
theorem d7_185 : decode method_3_code 185 = .ok (.bipush 30, 2) := by decide +kernel
theorem d7_187 : decode method_3_code 187 = .ok (.iload 4, 2) := by decide +kernel
theorem d7_189 : decode method_3_code 189 = .ok (.castore, 1) := by decide +kernel
theorem d7_190 : decode method_3_code 190 = .ok (.dup, 1) := by decide +kernel
theorem d7_191 : decode method_3_code 191 = .ok (.bipush 31, 2) := by decide +kernel
theorem d7_193 : decode method_3_code 193 = .ok (.iload 5, 2) := by decide +kernel
theorem d7_195 : decode method_3_code 195 = .ok (.castore, 1) := by decide +kernel
theorem d7_196 : decode method_3_code 196 = .ok (.areturn, 1) := by decide +kernel
theorem d7_197 : decode method_3_code 197 = .ok (.iload_n 0, 1) := by decide +kernel
theorem d7_198 : decode method_3_code 198 = .ok (.ifCond .ne 180, 3) := by decide +kernel
theorem d7_201 : decode method_3_code 201 = .ok (.bipush 30, 2) := by decide +kernel
theorem d7_203 : decode method_3_code 203 = .ok (.newarray .char, 2) := by decide +kernel
theorem d7_205 : decode method_3_code 205 = .ok (.dup, 1) := by decide +kernel
theorem d7_206 : decode method_3_code 206 = .ok (.iconst 0, 1) := by decide +kernel
theorem d7_207 : decode method_3_code 207 = .ok (.bipush 115, 2) := by decide +kernel
theorem d7_209 : decode method_3_code 209 = .ok (.castore, 1) := by decide +kernel
theorem d7_210 : decode method_3_code 210 = .ok (.dup, 1) := by decide +kernel
theorem d7_211 : decode method_3_code 211 = .ok (.iconst 1, 1) := by decide +kernel
theorem d7_212 : decode method_3_code 212 = .ok (.bipush 116, 2) := by decide +kernel
theorem d7_214 : decode method_3_code 214 = .ok (.castore, 1) := by decide +kernel
theorem d7_215 : decode method_3_code 215 = .ok (.dup, 1) := by decide +kernel
theorem d7_216 : decode method_3_code 216 = .ok (.iconst 2, 1) := by decide +kernel
theorem d7_217 : decode method_3_code 217 = .ok (.bipush 97, 2) := by decide +kernel
theorem d7_219 : decode method_3_code 219 = .ok (.castore, 1) := by decide +kernel
theorem d7_220 : decode method_3_code 220 = .ok (.dup, 1) := by decide +kernel
theorem d7_221 : decode method_3_code 221 = .ok (.iconst 3, 1) := by decide +kernel
theorem d7_222 : decode method_3_code 222 = .ok (.bipush 114, 2) := by decide +kernel
theorem d7_224 : decode method_3_code 224 = .ok (.castore, 1) := by decide +kernel
theorem d7_225 : decode method_3_code 225 = .ok (.dup, 1) := by decide +kernel
theorem d7_226 : decode method_3_code 226 = .ok (.iconst 4, 1) := by decide +kernel
theorem d7_227 : decode method_3_code 227 = .ok (.bipush 116, 2) := by decide +kernel
theorem d7_229 : decode method_3_code 229 = .ok (.castore, 1) := by decide +kernel
theorem d7_230 : decode method_3_code 230 = .ok (.dup, 1) := by decide +kernel
theorem d7_231 : decode method_3_code 231 = .ok (.iconst 5, 1) := by decide +kernel
theorem d7_232 : decode method_3_code 232 = .ok (.bipush 58, 2) := by decide +kernel
theorem d7_234 : decode method_3_code 234 = .ok (.castore, 1) := by decide +kernel
theorem d7_235 : decode method_3_code 235 = .ok (.dup, 1) := by decide +kernel
theorem d7_236 : decode method_3_code 236 = .ok (.bipush 6, 2) := by decide +kernel
theorem d7_238 : decode method_3_code 238 = .ok (.bipush 32, 2) := by decide +kernel
theorem d7_240 : decode method_3_code 240 = .ok (.castore, 1) := by decide +kernel
theorem d7_241 : decode method_3_code 241 = .ok (.dup, 1) := by decide +kernel
theorem d7_242 : decode method_3_code 242 = .ok (.bipush 7, 2) := by decide +kernel
theorem d7_244 : decode method_3_code 244 = .ok (.bipush 109, 2) := by decide +kernel
theorem d7_246 : decode method_3_code 246 = .ok (.castore, 1) := by decide +kernel
theorem d7_247 : decode method_3_code 247 = .ok (.dup, 1) := by decide +kernel
theorem d7_248 : decode method_3_code 248 = .ok (.bipush 8, 2) := by decide +kernel
theorem d7_250 : decode method_3_code 250 = .ok (.bipush 105, 2) := by decide +kernel
theorem d7_252 : decode method_3_code 252 = .ok (.castore, 1) := by decide +kernel
theorem d7_253 : decode method_3_code 253 = .ok (.dup, 1) := by decide +kernel
theorem d7_254 : decode method_3_code 254 = .ok (.bipush 9, 2) := by decide +kernel
theorem d7_256 : decode method_3_code 256 = .ok (.bipush 115, 2) := by decide +kernel
theorem d7_258 : decode method_3_code 258 = .ok (.castore, 1) := by decide +kernel
theorem d7_259 : decode method_3_code 259 = .ok (.dup, 1) := by decide +kernel
theorem d7_260 : decode method_3_code 260 = .ok (.bipush 10, 2) := by decide +kernel
theorem d7_262 : decode method_3_code 262 = .ok (.bipush 115, 2) := by decide +kernel
theorem d7_264 : decode method_3_code 264 = .ok (.castore, 1) := by decide +kernel
theorem d7_265 : decode method_3_code 265 = .ok (.dup, 1) := by decide +kernel
theorem d7_266 : decode method_3_code 266 = .ok (.bipush 11, 2) := by decide +kernel
theorem d7_268 : decode method_3_code 268 = .ok (.bipush 105, 2) := by decide +kernel
theorem d7_270 : decode method_3_code 270 = .ok (.castore, 1) := by decide +kernel
theorem d7_271 : decode method_3_code 271 = .ok (.dup, 1) := by decide +kernel
theorem d7_272 : decode method_3_code 272 = .ok (.bipush 12, 2) := by decide +kernel
theorem d7_274 : decode method_3_code 274 = .ok (.bipush 110, 2) := by decide +kernel
theorem d7_276 : decode method_3_code 276 = .ok (.castore, 1) := by decide +kernel
theorem d7_277 : decode method_3_code 277 = .ok (.dup, 1) := by decide +kernel
theorem d7_278 : decode method_3_code 278 = .ok (.bipush 13, 2) := by decide +kernel
theorem d7_280 : decode method_3_code 280 = .ok (.bipush 103, 2) := by decide +kernel
theorem d7_282 : decode method_3_code 282 = .ok (.castore, 1) := by decide +kernel
theorem d7_283 : decode method_3_code 283 = .ok (.dup, 1) := by decide +kernel
theorem d7_284 : decode method_3_code 284 = .ok (.bipush 14, 2) := by decide +kernel
theorem d7_286 : decode method_3_code 286 = .ok (.bipush 58, 2) := by decide +kernel
theorem d7_288 : decode method_3_code 288 = .ok (.castore, 1) := by decide +kernel
theorem d7_289 : decode method_3_code 289 = .ok (.dup, 1) := by decide +kernel
theorem d7_290 : decode method_3_code 290 = .ok (.bipush 15, 2) := by decide +kernel
theorem d7_292 : decode method_3_code 292 = .ok (.bipush 32, 2) := by decide +kernel
theorem d7_294 : decode method_3_code 294 = .ok (.castore, 1) := by decide +kernel
theorem d7_295 : decode method_3_code 295 = .ok (.dup, 1) := by decide +kernel
theorem d7_296 : decode method_3_code 296 = .ok (.bipush 16, 2) := by decide +kernel
theorem d7_298 : decode method_3_code 298 = .ok (.iload_n 2, 1) := by decide +kernel
theorem d7_299 : decode method_3_code 299 = .ok (.castore, 1) := by decide +kernel
theorem d7_300 : decode method_3_code 300 = .ok (.dup, 1) := by decide +kernel
theorem d7_301 : decode method_3_code 301 = .ok (.bipush 17, 2) := by decide +kernel
theorem d7_303 : decode method_3_code 303 = .ok (.iload_n 3, 1) := by decide +kernel
theorem d7_304 : decode method_3_code 304 = .ok (.castore, 1) := by decide +kernel
theorem d7_305 : decode method_3_code 305 = .ok (.dup, 1) := by decide +kernel
theorem d7_306 : decode method_3_code 306 = .ok (.bipush 18, 2) := by decide +kernel
theorem d7_308 : decode method_3_code 308 = .ok (.bipush 32, 2) := by decide +kernel
theorem d7_310 : decode method_3_code 310 = .ok (.castore, 1) := by decide +kernel
theorem d7_311 : decode method_3_code 311 = .ok (.dup, 1) := by decide +kernel
theorem d7_312 : decode method_3_code 312 = .ok (.bipush 19, 2) := by decide +kernel
theorem d7_314 : decode method_3_code 314 = .ok (.bipush 100, 2) := by decide +kernel
theorem d7_316 : decode method_3_code 316 = .ok (.castore, 1) := by decide +kernel
theorem d7_317 : decode method_3_code 317 = .ok (.dup, 1) := by decide +kernel
theorem d7_318 : decode method_3_code 318 = .ok (.bipush 20, 2) := by decide +kernel
theorem d7_320 : decode method_3_code 320 = .ok (.bipush 101, 2) := by decide +kernel
theorem d7_322 : decode method_3_code 322 = .ok (.castore, 1) := by decide +kernel
theorem d7_323 : decode method_3_code 323 = .ok (.dup, 1) := by decide +kernel
theorem d7_324 : decode method_3_code 324 = .ok (.bipush 21, 2) := by decide +kernel
theorem d7_326 : decode method_3_code 326 = .ok (.bipush 112, 2) := by decide +kernel
theorem d7_328 : decode method_3_code 328 = .ok (.castore, 1) := by decide +kernel
theorem d7_329 : decode method_3_code 329 = .ok (.dup, 1) := by decide +kernel
theorem d7_330 : decode method_3_code 330 = .ok (.bipush 22, 2) := by decide +kernel
theorem d7_332 : decode method_3_code 332 = .ok (.bipush 101, 2) := by decide +kernel
theorem d7_334 : decode method_3_code 334 = .ok (.castore, 1) := by decide +kernel
theorem d7_335 : decode method_3_code 335 = .ok (.dup, 1) := by decide +kernel
theorem d7_336 : decode method_3_code 336 = .ok (.bipush 23, 2) := by decide +kernel
theorem d7_338 : decode method_3_code 338 = .ok (.bipush 110, 2) := by decide +kernel
theorem d7_340 : decode method_3_code 340 = .ok (.castore, 1) := by decide +kernel
theorem d7_341 : decode method_3_code 341 = .ok (.dup, 1) := by decide +kernel
theorem d7_342 : decode method_3_code 342 = .ok (.bipush 24, 2) := by decide +kernel
theorem d7_344 : decode method_3_code 344 = .ok (.bipush 100, 2) := by decide +kernel
theorem d7_346 : decode method_3_code 346 = .ok (.castore, 1) := by decide +kernel
theorem d7_347 : decode method_3_code 347 = .ok (.dup, 1) := by decide +kernel
theorem d7_348 : decode method_3_code 348 = .ok (.bipush 25, 2) := by decide +kernel
theorem d7_350 : decode method_3_code 350 = .ok (.bipush 115, 2) := by decide +kernel
theorem d7_352 : decode method_3_code 352 = .ok (.castore, 1) := by decide +kernel
theorem d7_353 : decode method_3_code 353 = .ok (.dup, 1) := by decide +kernel
theorem d7_354 : decode method_3_code 354 = .ok (.bipush 26, 2) := by decide +kernel
theorem d7_356 : decode method_3_code 356 = .ok (.bipush 32, 2) := by decide +kernel
theorem d7_358 : decode method_3_code 358 = .ok (.castore, 1) := by decide +kernel
theorem d7_359 : decode method_3_code 359 = .ok (.dup, 1) := by decide +kernel
theorem d7_360 : decode method_3_code 360 = .ok (.bipush 27, 2) := by decide +kernel
theorem d7_362 : decode method_3_code 362 = .ok (.bipush 111, 2) := by decide +kernel
theorem d7_364 : decode method_3_code 364 = .ok (.castore, 1) := by decide +kernel
theorem d7_365 : decode method_3_code 365 = .ok (.dup, 1) := by decide +kernel
theorem d7_366 : decode method_3_code 366 = .ok (.bipush 28, 2) := by decide +kernel
theorem d7_368 : decode method_3_code 368 = .ok (.bipush 110, 2) := by decide +kernel
theorem d7_370 : decode method_3_code 370 = .ok (.castore, 1) := by decide +kernel
theorem d7_371 : decode method_3_code 371 = .ok (.dup, 1) := by decide +kernel
theorem d7_372 : decode method_3_code 372 = .ok (.bipush 29, 2) := by decide +kernel
theorem d7_374 : decode method_3_code 374 = .ok (.bipush 32, 2) := by decide +kernel
theorem d7_376 : decode method_3_code 376 = .ok (.castore, 1) := by decide +kernel
theorem d7_377 : decode method_3_code 377 = .ok (.areturn, 1) := by decide +kernel
theorem d7_378 : decode method_3_code 378 = .ok (.iload_n 1, 1) := by decide +kernel
theorem d7_379 : decode method_3_code 379 = .ok (.ifCond .ne 182, 3) := by decide +kernel
theorem d7_382 : decode method_3_code 382 = .ok (.bipush 30, 2) := by decide +kernel
theorem d7_384 : decode method_3_code 384 = .ok (.newarray .char, 2) := by decide +kernel
theorem d7_386 : decode method_3_code 386 = .ok (.dup, 1) := by decide +kernel
theorem d7_387 : decode method_3_code 387 = .ok (.iconst 0, 1) := by decide +kernel
theorem d7_388 : decode method_3_code 388 = .ok (.bipush 115, 2) := by decide +kernel
theorem d7_390 : decode method_3_code 390 = .ok (.castore, 1) := by decide +kernel
theorem d7_391 : decode method_3_code 391 = .ok (.dup, 1) := by decide +kernel
theorem d7_392 : decode method_3_code 392 = .ok (.iconst 1, 1) := by decide +kernel
theorem d7_393 : decode method_3_code 393 = .ok (.bipush 116, 2) := by decide +kernel
theorem d7_395 : decode method_3_code 395 = .ok (.castore, 1) := by decide +kernel
theorem d7_396 : decode method_3_code 396 = .ok (.dup, 1) := by decide +kernel
theorem d7_397 : decode method_3_code 397 = .ok (.iconst 2, 1) := by decide +kernel
theorem d7_398 : decode method_3_code 398 = .ok (.bipush 97, 2) := by decide +kernel
theorem d7_400 : decode method_3_code 400 = .ok (.castore, 1) := by decide +kernel
theorem d7_401 : decode method_3_code 401 = .ok (.dup, 1) := by decide +kernel
theorem d7_402 : decode method_3_code 402 = .ok (.iconst 3, 1) := by decide +kernel
theorem d7_403 : decode method_3_code 403 = .ok (.bipush 114, 2) := by decide +kernel
theorem d7_405 : decode method_3_code 405 = .ok (.castore, 1) := by decide +kernel
theorem d7_406 : decode method_3_code 406 = .ok (.dup, 1) := by decide +kernel
theorem d7_407 : decode method_3_code 407 = .ok (.iconst 4, 1) := by decide +kernel
theorem d7_408 : decode method_3_code 408 = .ok (.bipush 116, 2) := by decide +kernel
theorem d7_410 : decode method_3_code 410 = .ok (.castore, 1) := by decide +kernel
theorem d7_411 : decode method_3_code 411 = .ok (.dup, 1) := by decide +kernel
theorem d7_412 : decode method_3_code 412 = .ok (.iconst 5, 1) := by decide +kernel
theorem d7_413 : decode method_3_code 413 = .ok (.bipush 58, 2) := by decide +kernel
theorem d7_415 : decode method_3_code 415 = .ok (.castore, 1) := by decide +kernel
theorem d7_416 : decode method_3_code 416 = .ok (.dup, 1) := by decide +kernel
theorem d7_417 : decode method_3_code 417 = .ok (.bipush 6, 2) := by decide +kernel
theorem d7_419 : decode method_3_code 419 = .ok (.bipush 32, 2) := by decide +kernel
theorem d7_421 : decode method_3_code 421 = .ok (.castore, 1) := by decide +kernel
theorem d7_422 : decode method_3_code 422 = .ok (.dup, 1) := by decide +kernel
theorem d7_423 : decode method_3_code 423 = .ok (.bipush 7, 2) := by decide +kernel
theorem d7_425 : decode method_3_code 425 = .ok (.bipush 109, 2) := by decide +kernel
theorem d7_427 : decode method_3_code 427 = .ok (.castore, 1) := by decide +kernel
theorem d7_428 : decode method_3_code 428 = .ok (.dup, 1) := by decide +kernel
theorem d7_429 : decode method_3_code 429 = .ok (.bipush 8, 2) := by decide +kernel
theorem d7_431 : decode method_3_code 431 = .ok (.bipush 105, 2) := by decide +kernel
theorem d7_433 : decode method_3_code 433 = .ok (.castore, 1) := by decide +kernel
theorem d7_434 : decode method_3_code 434 = .ok (.dup, 1) := by decide +kernel
theorem d7_435 : decode method_3_code 435 = .ok (.bipush 9, 2) := by decide +kernel
theorem d7_437 : decode method_3_code 437 = .ok (.bipush 115, 2) := by decide +kernel
theorem d7_439 : decode method_3_code 439 = .ok (.castore, 1) := by decide +kernel
theorem d7_440 : decode method_3_code 440 = .ok (.dup, 1) := by decide +kernel
theorem d7_441 : decode method_3_code 441 = .ok (.bipush 10, 2) := by decide +kernel
theorem d7_443 : decode method_3_code 443 = .ok (.bipush 115, 2) := by decide +kernel
theorem d7_445 : decode method_3_code 445 = .ok (.castore, 1) := by decide +kernel
theorem d7_446 : decode method_3_code 446 = .ok (.dup, 1) := by decide +kernel
theorem d7_447 : decode method_3_code 447 = .ok (.bipush 11, 2) := by decide +kernel
theorem d7_449 : decode method_3_code 449 = .ok (.bipush 105, 2) := by decide +kernel
theorem d7_451 : decode method_3_code 451 = .ok (.castore, 1) := by decide +kernel
theorem d7_452 : decode method_3_code 452 = .ok (.dup, 1) := by decide +kernel
theorem d7_453 : decode method_3_code 453 = .ok (.bipush 12, 2) := by decide +kernel
theorem d7_455 : decode method_3_code 455 = .ok (.bipush 110, 2) := by decide +kernel
theorem d7_457 : decode method_3_code 457 = .ok (.castore, 1) := by decide +kernel
theorem d7_458 : decode method_3_code 458 = .ok (.dup, 1) := by decide +kernel
theorem d7_459 : decode method_3_code 459 = .ok (.bipush 13, 2) := by decide +kernel
theorem d7_461 : decode method_3_code 461 = .ok (.bipush 103, 2) := by decide +kernel
theorem d7_463 : decode method_3_code 463 = .ok (.castore, 1) := by decide +kernel
theorem d7_464 : decode method_3_code 464 = .ok (.dup, 1) := by decide +kernel
theorem d7_465 : decode method_3_code 465 = .ok (.bipush 14, 2) := by decide +kernel
theorem d7_467 : decode method_3_code 467 = .ok (.bipush 58, 2) := by decide +kernel
theorem d7_469 : decode method_3_code 469 = .ok (.castore, 1) := by decide +kernel
theorem d7_470 : decode method_3_code 470 = .ok (.dup, 1) := by decide +kernel
theorem d7_471 : decode method_3_code 471 = .ok (.bipush 15, 2) := by decide +kernel
theorem d7_473 : decode method_3_code 473 = .ok (.bipush 32, 2) := by decide +kernel
theorem d7_475 : decode method_3_code 475 = .ok (.castore, 1) := by decide +kernel
theorem d7_476 : decode method_3_code 476 = .ok (.dup, 1) := by decide +kernel
theorem d7_477 : decode method_3_code 477 = .ok (.bipush 16, 2) := by decide +kernel
theorem d7_479 : decode method_3_code 479 = .ok (.bipush 32, 2) := by decide +kernel
theorem d7_481 : decode method_3_code 481 = .ok (.castore, 1) := by decide +kernel
theorem d7_482 : decode method_3_code 482 = .ok (.dup, 1) := by decide +kernel
theorem d7_483 : decode method_3_code 483 = .ok (.bipush 17, 2) := by decide +kernel
theorem d7_485 : decode method_3_code 485 = .ok (.bipush 100, 2) := by decide +kernel
theorem d7_487 : decode method_3_code 487 = .ok (.castore, 1) := by decide +kernel
theorem d7_488 : decode method_3_code 488 = .ok (.dup, 1) := by decide +kernel
theorem d7_489 : decode method_3_code 489 = .ok (.bipush 18, 2) := by decide +kernel
theorem d7_491 : decode method_3_code 491 = .ok (.bipush 101, 2) := by decide +kernel
theorem d7_493 : decode method_3_code 493 = .ok (.castore, 1) := by decide +kernel
theorem d7_494 : decode method_3_code 494 = .ok (.dup, 1) := by decide +kernel
theorem d7_495 : decode method_3_code 495 = .ok (.bipush 19, 2) := by decide +kernel
theorem d7_497 : decode method_3_code 497 = .ok (.bipush 112, 2) := by decide +kernel
theorem d7_499 : decode method_3_code 499 = .ok (.castore, 1) := by decide +kernel
theorem d7_500 : decode method_3_code 500 = .ok (.dup, 1) := by decide +kernel
theorem d7_501 : decode method_3_code 501 = .ok (.bipush 20, 2) := by decide +kernel
theorem d7_503 : decode method_3_code 503 = .ok (.bipush 101, 2) := by decide +kernel
theorem d7_505 : decode method_3_code 505 = .ok (.castore, 1) := by decide +kernel
theorem d7_506 : decode method_3_code 506 = .ok (.dup, 1) := by decide +kernel
theorem d7_507 : decode method_3_code 507 = .ok (.bipush 21, 2) := by decide +kernel
theorem d7_509 : decode method_3_code 509 = .ok (.bipush 110, 2) := by decide +kernel
theorem d7_511 : decode method_3_code 511 = .ok (.castore, 1) := by decide +kernel
theorem d7_512 : decode method_3_code 512 = .ok (.dup, 1) := by decide +kernel
theorem d7_513 : decode method_3_code 513 = .ok (.bipush 22, 2) := by decide +kernel
theorem d7_515 : decode method_3_code 515 = .ok (.bipush 100, 2) := by decide +kernel
theorem d7_517 : decode method_3_code 517 = .ok (.castore, 1) := by decide +kernel
theorem d7_518 : decode method_3_code 518 = .ok (.dup, 1) := by decide +kernel
theorem d7_519 : decode method_3_code 519 = .ok (.bipush 23, 2) := by decide +kernel
theorem d7_521 : decode method_3_code 521 = .ok (.bipush 115, 2) := by decide +kernel
theorem d7_523 : decode method_3_code 523 = .ok (.castore, 1) := by decide +kernel
theorem d7_524 : decode method_3_code 524 = .ok (.dup, 1) := by decide +kernel
theorem d7_525 : decode method_3_code 525 = .ok (.bipush 24, 2) := by decide +kernel
theorem d7_527 : decode method_3_code 527 = .ok (.bipush 32, 2) := by decide +kernel
theorem d7_529 : decode method_3_code 529 = .ok (.castore, 1) := by decide +kernel
theorem d7_530 : decode method_3_code 530 = .ok (.dup, 1) := by decide +kernel
theorem d7_531 : decode method_3_code 531 = .ok (.bipush 25, 2) := by decide +kernel
theorem d7_533 : decode method_3_code 533 = .ok (.bipush 111, 2) := by decide +kernel
theorem d7_535 : decode method_3_code 535 = .ok (.castore, 1) := by decide +kernel
theorem d7_536 : decode method_3_code 536 = .ok (.dup, 1) := by decide +kernel
theorem d7_537 : decode method_3_code 537 = .ok (.bipush 26, 2) := by decide +kernel
theorem d7_539 : decode method_3_code 539 = .ok (.bipush 110, 2) := by decide +kernel
theorem d7_541 : decode method_3_code 541 = .ok (.castore, 1) := by decide +kernel
theorem d7_542 : decode method_3_code 542 = .ok (.dup, 1) := by decide +kernel
theorem d7_543 : decode method_3_code 543 = .ok (.bipush 27, 2) := by decide +kernel
theorem d7_545 : decode method_3_code 545 = .ok (.bipush 32, 2) := by decide +kernel
theorem d7_547 : decode method_3_code 547 = .ok (.castore, 1) := by decide +kernel
theorem d7_548 : decode method_3_code 548 = .ok (.dup, 1) := by decide +kernel
theorem d7_549 : decode method_3_code 549 = .ok (.bipush 28, 2) := by decide +kernel
theorem d7_551 : decode method_3_code 551 = .ok (.iload 4, 2) := by decide +kernel
theorem d7_553 : decode method_3_code 553 = .ok (.castore, 1) := by decide +kernel
theorem d7_554 : decode method_3_code 554 = .ok (.dup, 1) := by decide +kernel
theorem d7_555 : decode method_3_code 555 = .ok (.bipush 29, 2) := by decide +kernel
theorem d7_557 : decode method_3_code 557 = .ok (.iload 5, 2) := by decide +kernel
theorem d7_559 : decode method_3_code 559 = .ok (.castore, 1) := by decide +kernel
theorem d7_560 : decode method_3_code 560 = .ok (.areturn, 1) := by decide +kernel
theorem d7_561 : decode method_3_code 561 = .ok (.bipush 28, 2) := by decide +kernel
theorem d7_563 : decode method_3_code 563 = .ok (.newarray .char, 2) := by decide +kernel
theorem d7_565 : decode method_3_code 565 = .ok (.dup, 1) := by decide +kernel
theorem d7_566 : decode method_3_code 566 = .ok (.iconst 0, 1) := by decide +kernel
theorem d7_567 : decode method_3_code 567 = .ok (.bipush 115, 2) := by decide +kernel
theorem d7_569 : decode method_3_code 569 = .ok (.castore, 1) := by decide +kernel
theorem d7_570 : decode method_3_code 570 = .ok (.dup, 1) := by decide +kernel
theorem d7_571 : decode method_3_code 571 = .ok (.iconst 1, 1) := by decide +kernel
theorem d7_572 : decode method_3_code 572 = .ok (.bipush 116, 2) := by decide +kernel
theorem d7_574 : decode method_3_code 574 = .ok (.castore, 1) := by decide +kernel
theorem d7_575 : decode method_3_code 575 = .ok (.dup, 1) := by decide +kernel
theorem d7_576 : decode method_3_code 576 = .ok (.iconst 2, 1) := by decide +kernel
theorem d7_577 : decode method_3_code 577 = .ok (.bipush 97, 2) := by decide +kernel
theorem d7_579 : decode method_3_code 579 = .ok (.castore, 1) := by decide +kernel
theorem d7_580 : decode method_3_code 580 = .ok (.dup, 1) := by decide +kernel
theorem d7_581 : decode method_3_code 581 = .ok (.iconst 3, 1) := by decide +kernel
theorem d7_582 : decode method_3_code 582 = .ok (.bipush 114, 2) := by decide +kernel
theorem d7_584 : decode method_3_code 584 = .ok (.castore, 1) := by decide +kernel
theorem d7_585 : decode method_3_code 585 = .ok (.dup, 1) := by decide +kernel
theorem d7_586 : decode method_3_code 586 = .ok (.iconst 4, 1) := by decide +kernel
theorem d7_587 : decode method_3_code 587 = .ok (.bipush 116, 2) := by decide +kernel
theorem d7_589 : decode method_3_code 589 = .ok (.castore, 1) := by decide +kernel
theorem d7_590 : decode method_3_code 590 = .ok (.dup, 1) := by decide +kernel
theorem d7_591 : decode method_3_code 591 = .ok (.iconst 5, 1) := by decide +kernel
theorem d7_592 : decode method_3_code 592 = .ok (.bipush 58, 2) := by decide +kernel
theorem d7_594 : decode method_3_code 594 = .ok (.castore, 1) := by decide +kernel
theorem d7_595 : decode method_3_code 595 = .ok (.dup, 1) := by decide +kernel
theorem d7_596 : decode method_3_code 596 = .ok (.bipush 6, 2) := by decide +kernel
theorem d7_598 : decode method_3_code 598 = .ok (.bipush 32, 2) := by decide +kernel
theorem d7_600 : decode method_3_code 600 = .ok (.castore, 1) := by decide +kernel
theorem d7_601 : decode method_3_code 601 = .ok (.dup, 1) := by decide +kernel
theorem d7_602 : decode method_3_code 602 = .ok (.bipush 7, 2) := by decide +kernel
theorem d7_604 : decode method_3_code 604 = .ok (.bipush 109, 2) := by decide +kernel
theorem d7_606 : decode method_3_code 606 = .ok (.castore, 1) := by decide +kernel
theorem d7_607 : decode method_3_code 607 = .ok (.dup, 1) := by decide +kernel
theorem d7_608 : decode method_3_code 608 = .ok (.bipush 8, 2) := by decide +kernel
theorem d7_610 : decode method_3_code 610 = .ok (.bipush 105, 2) := by decide +kernel
theorem d7_612 : decode method_3_code 612 = .ok (.castore, 1) := by decide +kernel
theorem d7_613 : decode method_3_code 613 = .ok (.dup, 1) := by decide +kernel
theorem d7_614 : decode method_3_code 614 = .ok (.bipush 9, 2) := by decide +kernel
theorem d7_616 : decode method_3_code 616 = .ok (.bipush 115, 2) := by decide +kernel
theorem d7_618 : decode method_3_code 618 = .ok (.castore, 1) := by decide +kernel
theorem d7_619 : decode method_3_code 619 = .ok (.dup, 1) := by decide +kernel
theorem d7_620 : decode method_3_code 620 = .ok (.bipush 10, 2) := by decide +kernel
theorem d7_622 : decode method_3_code 622 = .ok (.bipush 115, 2) := by decide +kernel
theorem d7_624 : decode method_3_code 624 = .ok (.castore, 1) := by decide +kernel
theorem d7_625 : decode method_3_code 625 = .ok (.dup, 1) := by decide +kernel
theorem d7_626 : decode method_3_code 626 = .ok (.bipush 11, 2) := by decide +kernel
theorem d7_628 : decode method_3_code 628 = .ok (.bipush 105, 2) := by decide +kernel
theorem d7_630 : decode method_3_code 630 = .ok (.castore, 1) := by decide +kernel
theorem d7_631 : decode method_3_code 631 = .ok (.dup, 1) := by decide +kernel
theorem d7_632 : decode method_3_code 632 = .ok (.bipush 12, 2) := by decide +kernel
theorem d7_634 : decode method_3_code 634 = .ok (.bipush 110, 2) := by decide +kernel
theorem d7_636 : decode method_3_code 636 = .ok (.castore, 1) := by decide +kernel
theorem d7_637 : decode method_3_code 637 = .ok (.dup, 1) := by decide +kernel
theorem d7_638 : decode method_3_code 638 = .ok (.bipush 13, 2) := by decide +kernel
theorem d7_640 : decode method_3_code 640 = .ok (.bipush 103, 2) := by decide +kernel
theorem d7_642 : decode method_3_code 642 = .ok (.castore, 1) := by decide +kernel
theorem d7_643 : decode method_3_code 643 = .ok (.dup, 1) := by decide +kernel
theorem d7_644 : decode method_3_code 644 = .ok (.bipush 14, 2) := by decide +kernel
theorem d7_646 : decode method_3_code 646 = .ok (.bipush 58, 2) := by decide +kernel
theorem d7_648 : decode method_3_code 648 = .ok (.castore, 1) := by decide +kernel
theorem d7_649 : decode method_3_code 649 = .ok (.dup, 1) := by decide +kernel
theorem d7_650 : decode method_3_code 650 = .ok (.bipush 15, 2) := by decide +kernel
theorem d7_652 : decode method_3_code 652 = .ok (.bipush 32, 2) := by decide +kernel
theorem d7_654 : decode method_3_code 654 = .ok (.castore, 1) := by decide +kernel
theorem d7_655 : decode method_3_code 655 = .ok (.dup, 1) := by decide +kernel
theorem d7_656 : decode method_3_code 656 = .ok (.bipush 16, 2) := by decide +kernel
theorem d7_658 : decode method_3_code 658 = .ok (.bipush 32, 2) := by decide +kernel
theorem d7_660 : decode method_3_code 660 = .ok (.castore, 1) := by decide +kernel
theorem d7_661 : decode method_3_code 661 = .ok (.dup, 1) := by decide +kernel
theorem d7_662 : decode method_3_code 662 = .ok (.bipush 17, 2) := by decide +kernel
theorem d7_664 : decode method_3_code 664 = .ok (.bipush 100, 2) := by decide +kernel
theorem d7_666 : decode method_3_code 666 = .ok (.castore, 1) := by decide +kernel
theorem d7_667 : decode method_3_code 667 = .ok (.dup, 1) := by decide +kernel
theorem d7_668 : decode method_3_code 668 = .ok (.bipush 18, 2) := by decide +kernel
theorem d7_670 : decode method_3_code 670 = .ok (.bipush 101, 2) := by decide +kernel
theorem d7_672 : decode method_3_code 672 = .ok (.castore, 1) := by decide +kernel
theorem d7_673 : decode method_3_code 673 = .ok (.dup, 1) := by decide +kernel
theorem d7_674 : decode method_3_code 674 = .ok (.bipush 19, 2) := by decide +kernel
theorem d7_676 : decode method_3_code 676 = .ok (.bipush 112, 2) := by decide +kernel
theorem d7_678 : decode method_3_code 678 = .ok (.castore, 1) := by decide +kernel
theorem d7_679 : decode method_3_code 679 = .ok (.dup, 1) := by decide +kernel
theorem d7_680 : decode method_3_code 680 = .ok (.bipush 20, 2) := by decide +kernel
theorem d7_682 : decode method_3_code 682 = .ok (.bipush 101, 2) := by decide +kernel
theorem d7_684 : decode method_3_code 684 = .ok (.castore, 1) := by decide +kernel
theorem d7_685 : decode method_3_code 685 = .ok (.dup, 1) := by decide +kernel
theorem d7_686 : decode method_3_code 686 = .ok (.bipush 21, 2) := by decide +kernel
theorem d7_688 : decode method_3_code 688 = .ok (.bipush 110, 2) := by decide +kernel
theorem d7_690 : decode method_3_code 690 = .ok (.castore, 1) := by decide +kernel
theorem d7_691 : decode method_3_code 691 = .ok (.dup, 1) := by decide +kernel
theorem d7_692 : decode method_3_code 692 = .ok (.bipush 22, 2) := by decide +kernel
theorem d7_694 : decode method_3_code 694 = .ok (.bipush 100, 2) := by decide +kernel
theorem d7_696 : decode method_3_code 696 = .ok (.castore, 1) := by decide +kernel
theorem d7_697 : decode method_3_code 697 = .ok (.dup, 1) := by decide +kernel
theorem d7_698 : decode method_3_code 698 = .ok (.bipush 23, 2) := by decide +kernel
theorem d7_700 : decode method_3_code 700 = .ok (.bipush 115, 2) := by decide +kernel
theorem d7_702 : decode method_3_code 702 = .ok (.castore, 1) := by decide +kernel
theorem d7_703 : decode method_3_code 703 = .ok (.dup, 1) := by decide +kernel
theorem d7_704 : decode method_3_code 704 = .ok (.bipush 24, 2) := by decide +kernel
theorem d7_706 : decode method_3_code 706 = .ok (.bipush 32, 2) := by decide +kernel
theorem d7_708 : decode method_3_code 708 = .ok (.castore, 1) := by decide +kernel
theorem d7_709 : decode method_3_code 709 = .ok (.dup, 1) := by decide +kernel
theorem d7_710 : decode method_3_code 710 = .ok (.bipush 25, 2) := by decide +kernel
theorem d7_712 : decode method_3_code 712 = .ok (.bipush 111, 2) := by decide +kernel
theorem d7_714 : decode method_3_code 714 = .ok (.castore, 1) := by decide +kernel
theorem d7_715 : decode method_3_code 715 = .ok (.dup, 1) := by decide +kernel
theorem d7_716 : decode method_3_code 716 = .ok (.bipush 26, 2) := by decide +kernel
theorem d7_718 : decode method_3_code 718 = .ok (.bipush 110, 2) := by decide +kernel
theorem d7_720 : decode method_3_code 720 = .ok (.castore, 1) := by decide +kernel
theorem d7_721 : decode method_3_code 721 = .ok (.dup, 1) := by decide +kernel
theorem d7_722 : decode method_3_code 722 = .ok (.bipush 27, 2) := by decide +kernel
theorem d7_724 : decode method_3_code 724 = .ok (.bipush 32, 2) := by decide +kernel
theorem d7_726 : decode method_3_code 726 = .ok (.castore, 1) := by decide +kernel
theorem d7_727 : decode method_3_code 727 = .ok (.areturn, 1) := by decide +kernel
theorem pn_60146878 : plainFor (⟨"com/example/precedence/precedence/MissingLinePinLaw", "expected", "(ZZCCCC)[C"⟩ : MethodName) = true := by first | exact plainFor_of_name (by first | (simp [plainName, overriddenIn]; done) | decide +kernel) | decide +kernel
set_option maxRecDepth 65536 in
set_option maxHeartbeats 4000000 in
theorem ct_exp (G : Own.Gx) (hw : ∀ d ∈ tables_1, d.before G.a0 G.Z = true) {As : List Own.Ent} {Li : List Own.LitE} (f g a b d e : Int32) (hf : f = 0 ∨ f = 1) (hg : g = 0 ∨ g = 1) (ha : a &&& 255 = a) (hb : b &&& 255 = b) (hd : d &&& 255 = d) (he : e &&& 255 = e) :
    Own.Ct G [] (⟨"com/example/precedence/precedence/MissingLinePinLaw", "expected", "(ZZCCCC)[C"⟩ : MethodName) method_3_code 6 (some (.array .char)) ({ frames := 0, cells := 1, slots := 32, locals := 0 } : Room) [.int f, .int g, .int a, .int b, .int d, .int e] As Li (fun v A L => ∃ o, v = some (.ref o) ∧ A = (o, true, Own.arr .char ((own_exp f g a b d e).map Value.int)) :: As ∧ Li = L) := by
  refine Own.Ct.intro pn_60146878 (Ls := [.val (.int f), .val (.int g), .val (.int a), .val (.int b), .val (.int d), .val (.int e)]) rfl rfl ?_
  intro K
  rcases hf with rfl | rfl <;> rcases hg with rfl | rfl
  · refine Own.W.iloadN (pc := 0) d7_0 rfl ?_
    refine Own.W.if_ne (pc := 1) 197 d7_1 (by decide) (by decide) (fun h1 => absurd h1 (fun q => q rfl)) ?_
    intro h1
    refine Own.W.iloadN (pc := 4) d7_4 rfl ?_
    refine Own.W.if_ne (pc := 5) 197 d7_5 (by decide) (by decide) (fun h5 => absurd h5 (fun q => q rfl)) ?_
    intro h5
    refine Own.W.bipush (pc := 8) (z := (32 : Int32)) d7_8 (by decide) ?_
    refine Own.W.newP (pc := 10) 32 (hw _ (List.mem_of_getElem? (i := 0) rfl)) d7_10 rfl (by decide) (Nat.le_of_ble_eq_true rfl) (by decide) (vs := [.int 0, .int 0, .int 0, .int 0, .int 0, .int 0, .int 0, .int 0, .int 0, .int 0, .int 0, .int 0, .int 0, .int 0, .int 0, .int 0, .int 0, .int 0, .int 0, .int 0, .int 0, .int 0, .int 0, .int 0, .int 0, .int 0, .int 0, .int 0, .int 0, .int 0, .int 0, .int 0]) rfl (Nat.le_of_ble_eq_true rfl) (Nat.le_of_ble_eq_true rfl) ?_
    intro o10
    refine Own.W.dup (pc := 12) d7_12 rfl ?_
    refine Own.W.iconst (pc := 13) (z := (0 : Int32)) d7_13 (by decide) ?_
    refine Own.W.bipush (pc := 14) (z := (115 : Int32)) d7_14 (by decide) ?_
    refine Own.W.castore (pc := 16) d7_16 (by decide) (i := 0) (by decide) (by simp) (u := .int 115) (by decide) (vs' := [.int 115, .int 0, .int 0, .int 0, .int 0, .int 0, .int 0, .int 0, .int 0, .int 0, .int 0, .int 0, .int 0, .int 0, .int 0, .int 0, .int 0, .int 0, .int 0, .int 0, .int 0, .int 0, .int 0, .int 0, .int 0, .int 0, .int 0, .int 0, .int 0, .int 0, .int 0, .int 0]) rfl Own.Upd.head ?_
    refine Own.W.dup (pc := 17) d7_17 rfl ?_
    refine Own.W.iconst (pc := 18) (z := (1 : Int32)) d7_18 (by decide) ?_
    refine Own.W.bipush (pc := 19) (z := (116 : Int32)) d7_19 (by decide) ?_
    refine Own.W.castore (pc := 21) d7_21 (by decide) (i := 1) (by decide) (by simp) (u := .int 116) (by decide) (vs' := [.int 115, .int 116, .int 0, .int 0, .int 0, .int 0, .int 0, .int 0, .int 0, .int 0, .int 0, .int 0, .int 0, .int 0, .int 0, .int 0, .int 0, .int 0, .int 0, .int 0, .int 0, .int 0, .int 0, .int 0, .int 0, .int 0, .int 0, .int 0, .int 0, .int 0, .int 0, .int 0]) rfl Own.Upd.head ?_
    refine Own.W.dup (pc := 22) d7_22 rfl ?_
    refine Own.W.iconst (pc := 23) (z := (2 : Int32)) d7_23 (by decide) ?_
    refine Own.W.bipush (pc := 24) (z := (97 : Int32)) d7_24 (by decide) ?_
    refine Own.W.castore (pc := 26) d7_26 (by decide) (i := 2) (by decide) (by simp) (u := .int 97) (by decide) (vs' := [.int 115, .int 116, .int 97, .int 0, .int 0, .int 0, .int 0, .int 0, .int 0, .int 0, .int 0, .int 0, .int 0, .int 0, .int 0, .int 0, .int 0, .int 0, .int 0, .int 0, .int 0, .int 0, .int 0, .int 0, .int 0, .int 0, .int 0, .int 0, .int 0, .int 0, .int 0, .int 0]) rfl Own.Upd.head ?_
    refine Own.W.dup (pc := 27) d7_27 rfl ?_
    refine Own.W.iconst (pc := 28) (z := (3 : Int32)) d7_28 (by decide) ?_
    refine Own.W.bipush (pc := 29) (z := (114 : Int32)) d7_29 (by decide) ?_
    refine Own.W.castore (pc := 31) d7_31 (by decide) (i := 3) (by decide) (by simp) (u := .int 114) (by decide) (vs' := [.int 115, .int 116, .int 97, .int 114, .int 0, .int 0, .int 0, .int 0, .int 0, .int 0, .int 0, .int 0, .int 0, .int 0, .int 0, .int 0, .int 0, .int 0, .int 0, .int 0, .int 0, .int 0, .int 0, .int 0, .int 0, .int 0, .int 0, .int 0, .int 0, .int 0, .int 0, .int 0]) rfl Own.Upd.head ?_
    refine Own.W.dup (pc := 32) d7_32 rfl ?_
    refine Own.W.iconst (pc := 33) (z := (4 : Int32)) d7_33 (by decide) ?_
    refine Own.W.bipush (pc := 34) (z := (116 : Int32)) d7_34 (by decide) ?_
    refine Own.W.castore (pc := 36) d7_36 (by decide) (i := 4) (by decide) (by simp) (u := .int 116) (by decide) (vs' := [.int 115, .int 116, .int 97, .int 114, .int 116, .int 0, .int 0, .int 0, .int 0, .int 0, .int 0, .int 0, .int 0, .int 0, .int 0, .int 0, .int 0, .int 0, .int 0, .int 0, .int 0, .int 0, .int 0, .int 0, .int 0, .int 0, .int 0, .int 0, .int 0, .int 0, .int 0, .int 0]) rfl Own.Upd.head ?_
    refine Own.W.dup (pc := 37) d7_37 rfl ?_
    refine Own.W.iconst (pc := 38) (z := (5 : Int32)) d7_38 (by decide) ?_
    refine Own.W.bipush (pc := 39) (z := (58 : Int32)) d7_39 (by decide) ?_
    refine Own.W.castore (pc := 41) d7_41 (by decide) (i := 5) (by decide) (by simp) (u := .int 58) (by decide) (vs' := [.int 115, .int 116, .int 97, .int 114, .int 116, .int 58, .int 0, .int 0, .int 0, .int 0, .int 0, .int 0, .int 0, .int 0, .int 0, .int 0, .int 0, .int 0, .int 0, .int 0, .int 0, .int 0, .int 0, .int 0, .int 0, .int 0, .int 0, .int 0, .int 0, .int 0, .int 0, .int 0]) rfl Own.Upd.head ?_
    refine Own.W.dup (pc := 42) d7_42 rfl ?_
    refine Own.W.bipush (pc := 43) (z := (6 : Int32)) d7_43 (by decide) ?_
    refine Own.W.bipush (pc := 45) (z := (32 : Int32)) d7_45 (by decide) ?_
    refine Own.W.castore (pc := 47) d7_47 (by decide) (i := 6) (by decide) (by simp) (u := .int 32) (by decide) (vs' := [.int 115, .int 116, .int 97, .int 114, .int 116, .int 58, .int 32, .int 0, .int 0, .int 0, .int 0, .int 0, .int 0, .int 0, .int 0, .int 0, .int 0, .int 0, .int 0, .int 0, .int 0, .int 0, .int 0, .int 0, .int 0, .int 0, .int 0, .int 0, .int 0, .int 0, .int 0, .int 0]) rfl Own.Upd.head ?_
    refine Own.W.dup (pc := 48) d7_48 rfl ?_
    refine Own.W.bipush (pc := 49) (z := (7 : Int32)) d7_49 (by decide) ?_
    refine Own.W.bipush (pc := 51) (z := (109 : Int32)) d7_51 (by decide) ?_
    refine Own.W.castore (pc := 53) d7_53 (by decide) (i := 7) (by decide) (by simp) (u := .int 109) (by decide) (vs' := [.int 115, .int 116, .int 97, .int 114, .int 116, .int 58, .int 32, .int 109, .int 0, .int 0, .int 0, .int 0, .int 0, .int 0, .int 0, .int 0, .int 0, .int 0, .int 0, .int 0, .int 0, .int 0, .int 0, .int 0, .int 0, .int 0, .int 0, .int 0, .int 0, .int 0, .int 0, .int 0]) rfl Own.Upd.head ?_
    refine Own.W.dup (pc := 54) d7_54 rfl ?_
    refine Own.W.bipush (pc := 55) (z := (8 : Int32)) d7_55 (by decide) ?_
    refine Own.W.bipush (pc := 57) (z := (105 : Int32)) d7_57 (by decide) ?_
    refine Own.W.castore (pc := 59) d7_59 (by decide) (i := 8) (by decide) (by simp) (u := .int 105) (by decide) (vs' := [.int 115, .int 116, .int 97, .int 114, .int 116, .int 58, .int 32, .int 109, .int 105, .int 0, .int 0, .int 0, .int 0, .int 0, .int 0, .int 0, .int 0, .int 0, .int 0, .int 0, .int 0, .int 0, .int 0, .int 0, .int 0, .int 0, .int 0, .int 0, .int 0, .int 0, .int 0, .int 0]) rfl Own.Upd.head ?_
    refine Own.W.dup (pc := 60) d7_60 rfl ?_
    refine Own.W.bipush (pc := 61) (z := (9 : Int32)) d7_61 (by decide) ?_
    refine Own.W.bipush (pc := 63) (z := (115 : Int32)) d7_63 (by decide) ?_
    refine Own.W.castore (pc := 65) d7_65 (by decide) (i := 9) (by decide) (by simp) (u := .int 115) (by decide) (vs' := [.int 115, .int 116, .int 97, .int 114, .int 116, .int 58, .int 32, .int 109, .int 105, .int 115, .int 0, .int 0, .int 0, .int 0, .int 0, .int 0, .int 0, .int 0, .int 0, .int 0, .int 0, .int 0, .int 0, .int 0, .int 0, .int 0, .int 0, .int 0, .int 0, .int 0, .int 0, .int 0]) rfl Own.Upd.head ?_
    refine Own.W.dup (pc := 66) d7_66 rfl ?_
    refine Own.W.bipush (pc := 67) (z := (10 : Int32)) d7_67 (by decide) ?_
    refine Own.W.bipush (pc := 69) (z := (115 : Int32)) d7_69 (by decide) ?_
    refine Own.W.castore (pc := 71) d7_71 (by decide) (i := 10) (by decide) (by simp) (u := .int 115) (by decide) (vs' := [.int 115, .int 116, .int 97, .int 114, .int 116, .int 58, .int 32, .int 109, .int 105, .int 115, .int 115, .int 0, .int 0, .int 0, .int 0, .int 0, .int 0, .int 0, .int 0, .int 0, .int 0, .int 0, .int 0, .int 0, .int 0, .int 0, .int 0, .int 0, .int 0, .int 0, .int 0, .int 0]) rfl Own.Upd.head ?_
    refine Own.W.dup (pc := 72) d7_72 rfl ?_
    refine Own.W.bipush (pc := 73) (z := (11 : Int32)) d7_73 (by decide) ?_
    refine Own.W.bipush (pc := 75) (z := (105 : Int32)) d7_75 (by decide) ?_
    refine Own.W.castore (pc := 77) d7_77 (by decide) (i := 11) (by decide) (by simp) (u := .int 105) (by decide) (vs' := [.int 115, .int 116, .int 97, .int 114, .int 116, .int 58, .int 32, .int 109, .int 105, .int 115, .int 115, .int 105, .int 0, .int 0, .int 0, .int 0, .int 0, .int 0, .int 0, .int 0, .int 0, .int 0, .int 0, .int 0, .int 0, .int 0, .int 0, .int 0, .int 0, .int 0, .int 0, .int 0]) rfl Own.Upd.head ?_
    refine Own.W.dup (pc := 78) d7_78 rfl ?_
    refine Own.W.bipush (pc := 79) (z := (12 : Int32)) d7_79 (by decide) ?_
    refine Own.W.bipush (pc := 81) (z := (110 : Int32)) d7_81 (by decide) ?_
    refine Own.W.castore (pc := 83) d7_83 (by decide) (i := 12) (by decide) (by simp) (u := .int 110) (by decide) (vs' := [.int 115, .int 116, .int 97, .int 114, .int 116, .int 58, .int 32, .int 109, .int 105, .int 115, .int 115, .int 105, .int 110, .int 0, .int 0, .int 0, .int 0, .int 0, .int 0, .int 0, .int 0, .int 0, .int 0, .int 0, .int 0, .int 0, .int 0, .int 0, .int 0, .int 0, .int 0, .int 0]) rfl Own.Upd.head ?_
    refine Own.W.dup (pc := 84) d7_84 rfl ?_
    refine Own.W.bipush (pc := 85) (z := (13 : Int32)) d7_85 (by decide) ?_
    refine Own.W.bipush (pc := 87) (z := (103 : Int32)) d7_87 (by decide) ?_
    refine Own.W.castore (pc := 89) d7_89 (by decide) (i := 13) (by decide) (by simp) (u := .int 103) (by decide) (vs' := [.int 115, .int 116, .int 97, .int 114, .int 116, .int 58, .int 32, .int 109, .int 105, .int 115, .int 115, .int 105, .int 110, .int 103, .int 0, .int 0, .int 0, .int 0, .int 0, .int 0, .int 0, .int 0, .int 0, .int 0, .int 0, .int 0, .int 0, .int 0, .int 0, .int 0, .int 0, .int 0]) rfl Own.Upd.head ?_
    refine Own.W.dup (pc := 90) d7_90 rfl ?_
    refine Own.W.bipush (pc := 91) (z := (14 : Int32)) d7_91 (by decide) ?_
    refine Own.W.bipush (pc := 93) (z := (58 : Int32)) d7_93 (by decide) ?_
    refine Own.W.castore (pc := 95) d7_95 (by decide) (i := 14) (by decide) (by simp) (u := .int 58) (by decide) (vs' := [.int 115, .int 116, .int 97, .int 114, .int 116, .int 58, .int 32, .int 109, .int 105, .int 115, .int 115, .int 105, .int 110, .int 103, .int 58, .int 0, .int 0, .int 0, .int 0, .int 0, .int 0, .int 0, .int 0, .int 0, .int 0, .int 0, .int 0, .int 0, .int 0, .int 0, .int 0, .int 0]) rfl Own.Upd.head ?_
    refine Own.W.dup (pc := 96) d7_96 rfl ?_
    refine Own.W.bipush (pc := 97) (z := (15 : Int32)) d7_97 (by decide) ?_
    refine Own.W.bipush (pc := 99) (z := (32 : Int32)) d7_99 (by decide) ?_
    refine Own.W.castore (pc := 101) d7_101 (by decide) (i := 15) (by decide) (by simp) (u := .int 32) (by decide) (vs' := [.int 115, .int 116, .int 97, .int 114, .int 116, .int 58, .int 32, .int 109, .int 105, .int 115, .int 115, .int 105, .int 110, .int 103, .int 58, .int 32, .int 0, .int 0, .int 0, .int 0, .int 0, .int 0, .int 0, .int 0, .int 0, .int 0, .int 0, .int 0, .int 0, .int 0, .int 0, .int 0]) rfl Own.Upd.head ?_
    refine Own.W.dup (pc := 102) d7_102 rfl ?_
    refine Own.W.bipush (pc := 103) (z := (16 : Int32)) d7_103 (by decide) ?_
    refine Own.W.iloadN (pc := 105) d7_105 rfl ?_
    refine Own.W.castore (pc := 106) d7_106 (by decide) (i := 16) (by decide) (by simp) (u := .int a) (congrArg Value.int (own_nar ha)) (vs' := [.int 115, .int 116, .int 97, .int 114, .int 116, .int 58, .int 32, .int 109, .int 105, .int 115, .int 115, .int 105, .int 110, .int 103, .int 58, .int 32, .int a, .int 0, .int 0, .int 0, .int 0, .int 0, .int 0, .int 0, .int 0, .int 0, .int 0, .int 0, .int 0, .int 0, .int 0, .int 0]) rfl Own.Upd.head ?_
    refine Own.W.dup (pc := 107) d7_107 rfl ?_
    refine Own.W.bipush (pc := 108) (z := (17 : Int32)) d7_108 (by decide) ?_
    refine Own.W.iloadN (pc := 110) d7_110 rfl ?_
    refine Own.W.castore (pc := 111) d7_111 (by decide) (i := 17) (by decide) (by simp) (u := .int b) (congrArg Value.int (own_nar hb)) (vs' := [.int 115, .int 116, .int 97, .int 114, .int 116, .int 58, .int 32, .int 109, .int 105, .int 115, .int 115, .int 105, .int 110, .int 103, .int 58, .int 32, .int a, .int b, .int 0, .int 0, .int 0, .int 0, .int 0, .int 0, .int 0, .int 0, .int 0, .int 0, .int 0, .int 0, .int 0, .int 0]) rfl Own.Upd.head ?_
    refine Own.W.dup (pc := 112) d7_112 rfl ?_
    refine Own.W.bipush (pc := 113) (z := (18 : Int32)) d7_113 (by decide) ?_
    refine Own.W.bipush (pc := 115) (z := (32 : Int32)) d7_115 (by decide) ?_
    refine Own.W.castore (pc := 117) d7_117 (by decide) (i := 18) (by decide) (by simp) (u := .int 32) (by decide) (vs' := [.int 115, .int 116, .int 97, .int 114, .int 116, .int 58, .int 32, .int 109, .int 105, .int 115, .int 115, .int 105, .int 110, .int 103, .int 58, .int 32, .int a, .int b, .int 32, .int 0, .int 0, .int 0, .int 0, .int 0, .int 0, .int 0, .int 0, .int 0, .int 0, .int 0, .int 0, .int 0]) rfl Own.Upd.head ?_
    refine Own.W.dup (pc := 118) d7_118 rfl ?_
    refine Own.W.bipush (pc := 119) (z := (19 : Int32)) d7_119 (by decide) ?_
    refine Own.W.bipush (pc := 121) (z := (100 : Int32)) d7_121 (by decide) ?_
    refine Own.W.castore (pc := 123) d7_123 (by decide) (i := 19) (by decide) (by simp) (u := .int 100) (by decide) (vs' := [.int 115, .int 116, .int 97, .int 114, .int 116, .int 58, .int 32, .int 109, .int 105, .int 115, .int 115, .int 105, .int 110, .int 103, .int 58, .int 32, .int a, .int b, .int 32, .int 100, .int 0, .int 0, .int 0, .int 0, .int 0, .int 0, .int 0, .int 0, .int 0, .int 0, .int 0, .int 0]) rfl Own.Upd.head ?_
    refine Own.W.dup (pc := 124) d7_124 rfl ?_
    refine Own.W.bipush (pc := 125) (z := (20 : Int32)) d7_125 (by decide) ?_
    refine Own.W.bipush (pc := 127) (z := (101 : Int32)) d7_127 (by decide) ?_
    refine Own.W.castore (pc := 129) d7_129 (by decide) (i := 20) (by decide) (by simp) (u := .int 101) (by decide) (vs' := [.int 115, .int 116, .int 97, .int 114, .int 116, .int 58, .int 32, .int 109, .int 105, .int 115, .int 115, .int 105, .int 110, .int 103, .int 58, .int 32, .int a, .int b, .int 32, .int 100, .int 101, .int 0, .int 0, .int 0, .int 0, .int 0, .int 0, .int 0, .int 0, .int 0, .int 0, .int 0]) rfl Own.Upd.head ?_
    refine Own.W.dup (pc := 130) d7_130 rfl ?_
    refine Own.W.bipush (pc := 131) (z := (21 : Int32)) d7_131 (by decide) ?_
    refine Own.W.bipush (pc := 133) (z := (112 : Int32)) d7_133 (by decide) ?_
    refine Own.W.castore (pc := 135) d7_135 (by decide) (i := 21) (by decide) (by simp) (u := .int 112) (by decide) (vs' := [.int 115, .int 116, .int 97, .int 114, .int 116, .int 58, .int 32, .int 109, .int 105, .int 115, .int 115, .int 105, .int 110, .int 103, .int 58, .int 32, .int a, .int b, .int 32, .int 100, .int 101, .int 112, .int 0, .int 0, .int 0, .int 0, .int 0, .int 0, .int 0, .int 0, .int 0, .int 0]) rfl Own.Upd.head ?_
    refine Own.W.dup (pc := 136) d7_136 rfl ?_
    refine Own.W.bipush (pc := 137) (z := (22 : Int32)) d7_137 (by decide) ?_
    refine Own.W.bipush (pc := 139) (z := (101 : Int32)) d7_139 (by decide) ?_
    refine Own.W.castore (pc := 141) d7_141 (by decide) (i := 22) (by decide) (by simp) (u := .int 101) (by decide) (vs' := [.int 115, .int 116, .int 97, .int 114, .int 116, .int 58, .int 32, .int 109, .int 105, .int 115, .int 115, .int 105, .int 110, .int 103, .int 58, .int 32, .int a, .int b, .int 32, .int 100, .int 101, .int 112, .int 101, .int 0, .int 0, .int 0, .int 0, .int 0, .int 0, .int 0, .int 0, .int 0]) rfl Own.Upd.head ?_
    refine Own.W.dup (pc := 142) d7_142 rfl ?_
    refine Own.W.bipush (pc := 143) (z := (23 : Int32)) d7_143 (by decide) ?_
    refine Own.W.bipush (pc := 145) (z := (110 : Int32)) d7_145 (by decide) ?_
    refine Own.W.castore (pc := 147) d7_147 (by decide) (i := 23) (by decide) (by simp) (u := .int 110) (by decide) (vs' := [.int 115, .int 116, .int 97, .int 114, .int 116, .int 58, .int 32, .int 109, .int 105, .int 115, .int 115, .int 105, .int 110, .int 103, .int 58, .int 32, .int a, .int b, .int 32, .int 100, .int 101, .int 112, .int 101, .int 110, .int 0, .int 0, .int 0, .int 0, .int 0, .int 0, .int 0, .int 0]) rfl Own.Upd.head ?_
    refine Own.W.dup (pc := 148) d7_148 rfl ?_
    refine Own.W.bipush (pc := 149) (z := (24 : Int32)) d7_149 (by decide) ?_
    refine Own.W.bipush (pc := 151) (z := (100 : Int32)) d7_151 (by decide) ?_
    refine Own.W.castore (pc := 153) d7_153 (by decide) (i := 24) (by decide) (by simp) (u := .int 100) (by decide) (vs' := [.int 115, .int 116, .int 97, .int 114, .int 116, .int 58, .int 32, .int 109, .int 105, .int 115, .int 115, .int 105, .int 110, .int 103, .int 58, .int 32, .int a, .int b, .int 32, .int 100, .int 101, .int 112, .int 101, .int 110, .int 100, .int 0, .int 0, .int 0, .int 0, .int 0, .int 0, .int 0]) rfl Own.Upd.head ?_
    refine Own.W.dup (pc := 154) d7_154 rfl ?_
    refine Own.W.bipush (pc := 155) (z := (25 : Int32)) d7_155 (by decide) ?_
    refine Own.W.bipush (pc := 157) (z := (115 : Int32)) d7_157 (by decide) ?_
    refine Own.W.castore (pc := 159) d7_159 (by decide) (i := 25) (by decide) (by simp) (u := .int 115) (by decide) (vs' := [.int 115, .int 116, .int 97, .int 114, .int 116, .int 58, .int 32, .int 109, .int 105, .int 115, .int 115, .int 105, .int 110, .int 103, .int 58, .int 32, .int a, .int b, .int 32, .int 100, .int 101, .int 112, .int 101, .int 110, .int 100, .int 115, .int 0, .int 0, .int 0, .int 0, .int 0, .int 0]) rfl Own.Upd.head ?_
    refine Own.W.dup (pc := 160) d7_160 rfl ?_
    refine Own.W.bipush (pc := 161) (z := (26 : Int32)) d7_161 (by decide) ?_
    refine Own.W.bipush (pc := 163) (z := (32 : Int32)) d7_163 (by decide) ?_
    refine Own.W.castore (pc := 165) d7_165 (by decide) (i := 26) (by decide) (by simp) (u := .int 32) (by decide) (vs' := [.int 115, .int 116, .int 97, .int 114, .int 116, .int 58, .int 32, .int 109, .int 105, .int 115, .int 115, .int 105, .int 110, .int 103, .int 58, .int 32, .int a, .int b, .int 32, .int 100, .int 101, .int 112, .int 101, .int 110, .int 100, .int 115, .int 32, .int 0, .int 0, .int 0, .int 0, .int 0]) rfl Own.Upd.head ?_
    refine Own.W.dup (pc := 166) d7_166 rfl ?_
    refine Own.W.bipush (pc := 167) (z := (27 : Int32)) d7_167 (by decide) ?_
    refine Own.W.bipush (pc := 169) (z := (111 : Int32)) d7_169 (by decide) ?_
    refine Own.W.castore (pc := 171) d7_171 (by decide) (i := 27) (by decide) (by simp) (u := .int 111) (by decide) (vs' := [.int 115, .int 116, .int 97, .int 114, .int 116, .int 58, .int 32, .int 109, .int 105, .int 115, .int 115, .int 105, .int 110, .int 103, .int 58, .int 32, .int a, .int b, .int 32, .int 100, .int 101, .int 112, .int 101, .int 110, .int 100, .int 115, .int 32, .int 111, .int 0, .int 0, .int 0, .int 0]) rfl Own.Upd.head ?_
    refine Own.W.dup (pc := 172) d7_172 rfl ?_
    refine Own.W.bipush (pc := 173) (z := (28 : Int32)) d7_173 (by decide) ?_
    refine Own.W.bipush (pc := 175) (z := (110 : Int32)) d7_175 (by decide) ?_
    refine Own.W.castore (pc := 177) d7_177 (by decide) (i := 28) (by decide) (by simp) (u := .int 110) (by decide) (vs' := [.int 115, .int 116, .int 97, .int 114, .int 116, .int 58, .int 32, .int 109, .int 105, .int 115, .int 115, .int 105, .int 110, .int 103, .int 58, .int 32, .int a, .int b, .int 32, .int 100, .int 101, .int 112, .int 101, .int 110, .int 100, .int 115, .int 32, .int 111, .int 110, .int 0, .int 0, .int 0]) rfl Own.Upd.head ?_
    refine Own.W.dup (pc := 178) d7_178 rfl ?_
    refine Own.W.bipush (pc := 179) (z := (29 : Int32)) d7_179 (by decide) ?_
    refine Own.W.bipush (pc := 181) (z := (32 : Int32)) d7_181 (by decide) ?_
    refine Own.W.castore (pc := 183) d7_183 (by decide) (i := 29) (by decide) (by simp) (u := .int 32) (by decide) (vs' := [.int 115, .int 116, .int 97, .int 114, .int 116, .int 58, .int 32, .int 109, .int 105, .int 115, .int 115, .int 105, .int 110, .int 103, .int 58, .int 32, .int a, .int b, .int 32, .int 100, .int 101, .int 112, .int 101, .int 110, .int 100, .int 115, .int 32, .int 111, .int 110, .int 32, .int 0, .int 0]) rfl Own.Upd.head ?_
    refine Own.W.dup (pc := 184) d7_184 rfl ?_
    refine Own.W.bipush (pc := 185) (z := (30 : Int32)) d7_185 (by decide) ?_
    refine Own.W.iload (pc := 187) d7_187 rfl ?_
    refine Own.W.castore (pc := 189) d7_189 (by decide) (i := 30) (by decide) (by simp) (u := .int d) (congrArg Value.int (own_nar hd)) (vs' := [.int 115, .int 116, .int 97, .int 114, .int 116, .int 58, .int 32, .int 109, .int 105, .int 115, .int 115, .int 105, .int 110, .int 103, .int 58, .int 32, .int a, .int b, .int 32, .int 100, .int 101, .int 112, .int 101, .int 110, .int 100, .int 115, .int 32, .int 111, .int 110, .int 32, .int d, .int 0]) rfl Own.Upd.head ?_
    refine Own.W.dup (pc := 190) d7_190 rfl ?_
    refine Own.W.bipush (pc := 191) (z := (31 : Int32)) d7_191 (by decide) ?_
    refine Own.W.iload (pc := 193) d7_193 rfl ?_
    refine Own.W.castore (pc := 195) d7_195 (by decide) (i := 31) (by decide) (by simp) (u := .int e) (congrArg Value.int (own_nar he)) (vs' := [.int 115, .int 116, .int 97, .int 114, .int 116, .int 58, .int 32, .int 109, .int 105, .int 115, .int 115, .int 105, .int 110, .int 103, .int 58, .int 32, .int a, .int b, .int 32, .int 100, .int 101, .int 112, .int 101, .int 110, .int 100, .int 115, .int 32, .int 111, .int 110, .int 32, .int d, .int e]) rfl Own.Upd.head ?_
    refine Own.W.aret (pc := 196) d7_196 rfl rfl rfl ?_ (Nat.le_of_ble_eq_true rfl) (Nat.le_of_ble_eq_true rfl)
    exact ⟨_, rfl, rfl, rfl⟩
  · refine Own.W.iloadN (pc := 0) d7_0 rfl ?_
    refine Own.W.if_ne (pc := 1) 197 d7_1 (by decide) (by decide) (fun h1 => absurd h1 (fun q => q rfl)) ?_
    intro h1
    refine Own.W.iloadN (pc := 4) d7_4 rfl ?_
    refine Own.W.if_ne (pc := 5) 197 d7_5 (by decide) (by decide) ?_ (fun h5 => absurd h5 (by decide))
    intro h5
    refine Own.W.iloadN (pc := 197) d7_197 rfl ?_
    refine Own.W.if_ne (pc := 198) 378 d7_198 (by decide) (by decide) (fun h198 => absurd h198 (fun q => q rfl)) ?_
    intro h198
    refine Own.W.bipush (pc := 201) (z := (30 : Int32)) d7_201 (by decide) ?_
    refine Own.W.newP (pc := 203) 30 (hw _ (List.mem_of_getElem? (i := 0) rfl)) d7_203 rfl (by decide) (Nat.le_of_ble_eq_true rfl) (by decide) (vs := [.int 0, .int 0, .int 0, .int 0, .int 0, .int 0, .int 0, .int 0, .int 0, .int 0, .int 0, .int 0, .int 0, .int 0, .int 0, .int 0, .int 0, .int 0, .int 0, .int 0, .int 0, .int 0, .int 0, .int 0, .int 0, .int 0, .int 0, .int 0, .int 0, .int 0]) rfl (Nat.le_of_ble_eq_true rfl) (Nat.le_of_ble_eq_true rfl) ?_
    intro o203
    refine Own.W.dup (pc := 205) d7_205 rfl ?_
    refine Own.W.iconst (pc := 206) (z := (0 : Int32)) d7_206 (by decide) ?_
    refine Own.W.bipush (pc := 207) (z := (115 : Int32)) d7_207 (by decide) ?_
    refine Own.W.castore (pc := 209) d7_209 (by decide) (i := 0) (by decide) (by simp) (u := .int 115) (by decide) (vs' := [.int 115, .int 0, .int 0, .int 0, .int 0, .int 0, .int 0, .int 0, .int 0, .int 0, .int 0, .int 0, .int 0, .int 0, .int 0, .int 0, .int 0, .int 0, .int 0, .int 0, .int 0, .int 0, .int 0, .int 0, .int 0, .int 0, .int 0, .int 0, .int 0, .int 0]) rfl Own.Upd.head ?_
    refine Own.W.dup (pc := 210) d7_210 rfl ?_
    refine Own.W.iconst (pc := 211) (z := (1 : Int32)) d7_211 (by decide) ?_
    refine Own.W.bipush (pc := 212) (z := (116 : Int32)) d7_212 (by decide) ?_
    refine Own.W.castore (pc := 214) d7_214 (by decide) (i := 1) (by decide) (by simp) (u := .int 116) (by decide) (vs' := [.int 115, .int 116, .int 0, .int 0, .int 0, .int 0, .int 0, .int 0, .int 0, .int 0, .int 0, .int 0, .int 0, .int 0, .int 0, .int 0, .int 0, .int 0, .int 0, .int 0, .int 0, .int 0, .int 0, .int 0, .int 0, .int 0, .int 0, .int 0, .int 0, .int 0]) rfl Own.Upd.head ?_
    refine Own.W.dup (pc := 215) d7_215 rfl ?_
    refine Own.W.iconst (pc := 216) (z := (2 : Int32)) d7_216 (by decide) ?_
    refine Own.W.bipush (pc := 217) (z := (97 : Int32)) d7_217 (by decide) ?_
    refine Own.W.castore (pc := 219) d7_219 (by decide) (i := 2) (by decide) (by simp) (u := .int 97) (by decide) (vs' := [.int 115, .int 116, .int 97, .int 0, .int 0, .int 0, .int 0, .int 0, .int 0, .int 0, .int 0, .int 0, .int 0, .int 0, .int 0, .int 0, .int 0, .int 0, .int 0, .int 0, .int 0, .int 0, .int 0, .int 0, .int 0, .int 0, .int 0, .int 0, .int 0, .int 0]) rfl Own.Upd.head ?_
    refine Own.W.dup (pc := 220) d7_220 rfl ?_
    refine Own.W.iconst (pc := 221) (z := (3 : Int32)) d7_221 (by decide) ?_
    refine Own.W.bipush (pc := 222) (z := (114 : Int32)) d7_222 (by decide) ?_
    refine Own.W.castore (pc := 224) d7_224 (by decide) (i := 3) (by decide) (by simp) (u := .int 114) (by decide) (vs' := [.int 115, .int 116, .int 97, .int 114, .int 0, .int 0, .int 0, .int 0, .int 0, .int 0, .int 0, .int 0, .int 0, .int 0, .int 0, .int 0, .int 0, .int 0, .int 0, .int 0, .int 0, .int 0, .int 0, .int 0, .int 0, .int 0, .int 0, .int 0, .int 0, .int 0]) rfl Own.Upd.head ?_
    refine Own.W.dup (pc := 225) d7_225 rfl ?_
    refine Own.W.iconst (pc := 226) (z := (4 : Int32)) d7_226 (by decide) ?_
    refine Own.W.bipush (pc := 227) (z := (116 : Int32)) d7_227 (by decide) ?_
    refine Own.W.castore (pc := 229) d7_229 (by decide) (i := 4) (by decide) (by simp) (u := .int 116) (by decide) (vs' := [.int 115, .int 116, .int 97, .int 114, .int 116, .int 0, .int 0, .int 0, .int 0, .int 0, .int 0, .int 0, .int 0, .int 0, .int 0, .int 0, .int 0, .int 0, .int 0, .int 0, .int 0, .int 0, .int 0, .int 0, .int 0, .int 0, .int 0, .int 0, .int 0, .int 0]) rfl Own.Upd.head ?_
    refine Own.W.dup (pc := 230) d7_230 rfl ?_
    refine Own.W.iconst (pc := 231) (z := (5 : Int32)) d7_231 (by decide) ?_
    refine Own.W.bipush (pc := 232) (z := (58 : Int32)) d7_232 (by decide) ?_
    refine Own.W.castore (pc := 234) d7_234 (by decide) (i := 5) (by decide) (by simp) (u := .int 58) (by decide) (vs' := [.int 115, .int 116, .int 97, .int 114, .int 116, .int 58, .int 0, .int 0, .int 0, .int 0, .int 0, .int 0, .int 0, .int 0, .int 0, .int 0, .int 0, .int 0, .int 0, .int 0, .int 0, .int 0, .int 0, .int 0, .int 0, .int 0, .int 0, .int 0, .int 0, .int 0]) rfl Own.Upd.head ?_
    refine Own.W.dup (pc := 235) d7_235 rfl ?_
    refine Own.W.bipush (pc := 236) (z := (6 : Int32)) d7_236 (by decide) ?_
    refine Own.W.bipush (pc := 238) (z := (32 : Int32)) d7_238 (by decide) ?_
    refine Own.W.castore (pc := 240) d7_240 (by decide) (i := 6) (by decide) (by simp) (u := .int 32) (by decide) (vs' := [.int 115, .int 116, .int 97, .int 114, .int 116, .int 58, .int 32, .int 0, .int 0, .int 0, .int 0, .int 0, .int 0, .int 0, .int 0, .int 0, .int 0, .int 0, .int 0, .int 0, .int 0, .int 0, .int 0, .int 0, .int 0, .int 0, .int 0, .int 0, .int 0, .int 0]) rfl Own.Upd.head ?_
    refine Own.W.dup (pc := 241) d7_241 rfl ?_
    refine Own.W.bipush (pc := 242) (z := (7 : Int32)) d7_242 (by decide) ?_
    refine Own.W.bipush (pc := 244) (z := (109 : Int32)) d7_244 (by decide) ?_
    refine Own.W.castore (pc := 246) d7_246 (by decide) (i := 7) (by decide) (by simp) (u := .int 109) (by decide) (vs' := [.int 115, .int 116, .int 97, .int 114, .int 116, .int 58, .int 32, .int 109, .int 0, .int 0, .int 0, .int 0, .int 0, .int 0, .int 0, .int 0, .int 0, .int 0, .int 0, .int 0, .int 0, .int 0, .int 0, .int 0, .int 0, .int 0, .int 0, .int 0, .int 0, .int 0]) rfl Own.Upd.head ?_
    refine Own.W.dup (pc := 247) d7_247 rfl ?_
    refine Own.W.bipush (pc := 248) (z := (8 : Int32)) d7_248 (by decide) ?_
    refine Own.W.bipush (pc := 250) (z := (105 : Int32)) d7_250 (by decide) ?_
    refine Own.W.castore (pc := 252) d7_252 (by decide) (i := 8) (by decide) (by simp) (u := .int 105) (by decide) (vs' := [.int 115, .int 116, .int 97, .int 114, .int 116, .int 58, .int 32, .int 109, .int 105, .int 0, .int 0, .int 0, .int 0, .int 0, .int 0, .int 0, .int 0, .int 0, .int 0, .int 0, .int 0, .int 0, .int 0, .int 0, .int 0, .int 0, .int 0, .int 0, .int 0, .int 0]) rfl Own.Upd.head ?_
    refine Own.W.dup (pc := 253) d7_253 rfl ?_
    refine Own.W.bipush (pc := 254) (z := (9 : Int32)) d7_254 (by decide) ?_
    refine Own.W.bipush (pc := 256) (z := (115 : Int32)) d7_256 (by decide) ?_
    refine Own.W.castore (pc := 258) d7_258 (by decide) (i := 9) (by decide) (by simp) (u := .int 115) (by decide) (vs' := [.int 115, .int 116, .int 97, .int 114, .int 116, .int 58, .int 32, .int 109, .int 105, .int 115, .int 0, .int 0, .int 0, .int 0, .int 0, .int 0, .int 0, .int 0, .int 0, .int 0, .int 0, .int 0, .int 0, .int 0, .int 0, .int 0, .int 0, .int 0, .int 0, .int 0]) rfl Own.Upd.head ?_
    refine Own.W.dup (pc := 259) d7_259 rfl ?_
    refine Own.W.bipush (pc := 260) (z := (10 : Int32)) d7_260 (by decide) ?_
    refine Own.W.bipush (pc := 262) (z := (115 : Int32)) d7_262 (by decide) ?_
    refine Own.W.castore (pc := 264) d7_264 (by decide) (i := 10) (by decide) (by simp) (u := .int 115) (by decide) (vs' := [.int 115, .int 116, .int 97, .int 114, .int 116, .int 58, .int 32, .int 109, .int 105, .int 115, .int 115, .int 0, .int 0, .int 0, .int 0, .int 0, .int 0, .int 0, .int 0, .int 0, .int 0, .int 0, .int 0, .int 0, .int 0, .int 0, .int 0, .int 0, .int 0, .int 0]) rfl Own.Upd.head ?_
    refine Own.W.dup (pc := 265) d7_265 rfl ?_
    refine Own.W.bipush (pc := 266) (z := (11 : Int32)) d7_266 (by decide) ?_
    refine Own.W.bipush (pc := 268) (z := (105 : Int32)) d7_268 (by decide) ?_
    refine Own.W.castore (pc := 270) d7_270 (by decide) (i := 11) (by decide) (by simp) (u := .int 105) (by decide) (vs' := [.int 115, .int 116, .int 97, .int 114, .int 116, .int 58, .int 32, .int 109, .int 105, .int 115, .int 115, .int 105, .int 0, .int 0, .int 0, .int 0, .int 0, .int 0, .int 0, .int 0, .int 0, .int 0, .int 0, .int 0, .int 0, .int 0, .int 0, .int 0, .int 0, .int 0]) rfl Own.Upd.head ?_
    refine Own.W.dup (pc := 271) d7_271 rfl ?_
    refine Own.W.bipush (pc := 272) (z := (12 : Int32)) d7_272 (by decide) ?_
    refine Own.W.bipush (pc := 274) (z := (110 : Int32)) d7_274 (by decide) ?_
    refine Own.W.castore (pc := 276) d7_276 (by decide) (i := 12) (by decide) (by simp) (u := .int 110) (by decide) (vs' := [.int 115, .int 116, .int 97, .int 114, .int 116, .int 58, .int 32, .int 109, .int 105, .int 115, .int 115, .int 105, .int 110, .int 0, .int 0, .int 0, .int 0, .int 0, .int 0, .int 0, .int 0, .int 0, .int 0, .int 0, .int 0, .int 0, .int 0, .int 0, .int 0, .int 0]) rfl Own.Upd.head ?_
    refine Own.W.dup (pc := 277) d7_277 rfl ?_
    refine Own.W.bipush (pc := 278) (z := (13 : Int32)) d7_278 (by decide) ?_
    refine Own.W.bipush (pc := 280) (z := (103 : Int32)) d7_280 (by decide) ?_
    refine Own.W.castore (pc := 282) d7_282 (by decide) (i := 13) (by decide) (by simp) (u := .int 103) (by decide) (vs' := [.int 115, .int 116, .int 97, .int 114, .int 116, .int 58, .int 32, .int 109, .int 105, .int 115, .int 115, .int 105, .int 110, .int 103, .int 0, .int 0, .int 0, .int 0, .int 0, .int 0, .int 0, .int 0, .int 0, .int 0, .int 0, .int 0, .int 0, .int 0, .int 0, .int 0]) rfl Own.Upd.head ?_
    refine Own.W.dup (pc := 283) d7_283 rfl ?_
    refine Own.W.bipush (pc := 284) (z := (14 : Int32)) d7_284 (by decide) ?_
    refine Own.W.bipush (pc := 286) (z := (58 : Int32)) d7_286 (by decide) ?_
    refine Own.W.castore (pc := 288) d7_288 (by decide) (i := 14) (by decide) (by simp) (u := .int 58) (by decide) (vs' := [.int 115, .int 116, .int 97, .int 114, .int 116, .int 58, .int 32, .int 109, .int 105, .int 115, .int 115, .int 105, .int 110, .int 103, .int 58, .int 0, .int 0, .int 0, .int 0, .int 0, .int 0, .int 0, .int 0, .int 0, .int 0, .int 0, .int 0, .int 0, .int 0, .int 0]) rfl Own.Upd.head ?_
    refine Own.W.dup (pc := 289) d7_289 rfl ?_
    refine Own.W.bipush (pc := 290) (z := (15 : Int32)) d7_290 (by decide) ?_
    refine Own.W.bipush (pc := 292) (z := (32 : Int32)) d7_292 (by decide) ?_
    refine Own.W.castore (pc := 294) d7_294 (by decide) (i := 15) (by decide) (by simp) (u := .int 32) (by decide) (vs' := [.int 115, .int 116, .int 97, .int 114, .int 116, .int 58, .int 32, .int 109, .int 105, .int 115, .int 115, .int 105, .int 110, .int 103, .int 58, .int 32, .int 0, .int 0, .int 0, .int 0, .int 0, .int 0, .int 0, .int 0, .int 0, .int 0, .int 0, .int 0, .int 0, .int 0]) rfl Own.Upd.head ?_
    refine Own.W.dup (pc := 295) d7_295 rfl ?_
    refine Own.W.bipush (pc := 296) (z := (16 : Int32)) d7_296 (by decide) ?_
    refine Own.W.iloadN (pc := 298) d7_298 rfl ?_
    refine Own.W.castore (pc := 299) d7_299 (by decide) (i := 16) (by decide) (by simp) (u := .int a) (congrArg Value.int (own_nar ha)) (vs' := [.int 115, .int 116, .int 97, .int 114, .int 116, .int 58, .int 32, .int 109, .int 105, .int 115, .int 115, .int 105, .int 110, .int 103, .int 58, .int 32, .int a, .int 0, .int 0, .int 0, .int 0, .int 0, .int 0, .int 0, .int 0, .int 0, .int 0, .int 0, .int 0, .int 0]) rfl Own.Upd.head ?_
    refine Own.W.dup (pc := 300) d7_300 rfl ?_
    refine Own.W.bipush (pc := 301) (z := (17 : Int32)) d7_301 (by decide) ?_
    refine Own.W.iloadN (pc := 303) d7_303 rfl ?_
    refine Own.W.castore (pc := 304) d7_304 (by decide) (i := 17) (by decide) (by simp) (u := .int b) (congrArg Value.int (own_nar hb)) (vs' := [.int 115, .int 116, .int 97, .int 114, .int 116, .int 58, .int 32, .int 109, .int 105, .int 115, .int 115, .int 105, .int 110, .int 103, .int 58, .int 32, .int a, .int b, .int 0, .int 0, .int 0, .int 0, .int 0, .int 0, .int 0, .int 0, .int 0, .int 0, .int 0, .int 0]) rfl Own.Upd.head ?_
    refine Own.W.dup (pc := 305) d7_305 rfl ?_
    refine Own.W.bipush (pc := 306) (z := (18 : Int32)) d7_306 (by decide) ?_
    refine Own.W.bipush (pc := 308) (z := (32 : Int32)) d7_308 (by decide) ?_
    refine Own.W.castore (pc := 310) d7_310 (by decide) (i := 18) (by decide) (by simp) (u := .int 32) (by decide) (vs' := [.int 115, .int 116, .int 97, .int 114, .int 116, .int 58, .int 32, .int 109, .int 105, .int 115, .int 115, .int 105, .int 110, .int 103, .int 58, .int 32, .int a, .int b, .int 32, .int 0, .int 0, .int 0, .int 0, .int 0, .int 0, .int 0, .int 0, .int 0, .int 0, .int 0]) rfl Own.Upd.head ?_
    refine Own.W.dup (pc := 311) d7_311 rfl ?_
    refine Own.W.bipush (pc := 312) (z := (19 : Int32)) d7_312 (by decide) ?_
    refine Own.W.bipush (pc := 314) (z := (100 : Int32)) d7_314 (by decide) ?_
    refine Own.W.castore (pc := 316) d7_316 (by decide) (i := 19) (by decide) (by simp) (u := .int 100) (by decide) (vs' := [.int 115, .int 116, .int 97, .int 114, .int 116, .int 58, .int 32, .int 109, .int 105, .int 115, .int 115, .int 105, .int 110, .int 103, .int 58, .int 32, .int a, .int b, .int 32, .int 100, .int 0, .int 0, .int 0, .int 0, .int 0, .int 0, .int 0, .int 0, .int 0, .int 0]) rfl Own.Upd.head ?_
    refine Own.W.dup (pc := 317) d7_317 rfl ?_
    refine Own.W.bipush (pc := 318) (z := (20 : Int32)) d7_318 (by decide) ?_
    refine Own.W.bipush (pc := 320) (z := (101 : Int32)) d7_320 (by decide) ?_
    refine Own.W.castore (pc := 322) d7_322 (by decide) (i := 20) (by decide) (by simp) (u := .int 101) (by decide) (vs' := [.int 115, .int 116, .int 97, .int 114, .int 116, .int 58, .int 32, .int 109, .int 105, .int 115, .int 115, .int 105, .int 110, .int 103, .int 58, .int 32, .int a, .int b, .int 32, .int 100, .int 101, .int 0, .int 0, .int 0, .int 0, .int 0, .int 0, .int 0, .int 0, .int 0]) rfl Own.Upd.head ?_
    refine Own.W.dup (pc := 323) d7_323 rfl ?_
    refine Own.W.bipush (pc := 324) (z := (21 : Int32)) d7_324 (by decide) ?_
    refine Own.W.bipush (pc := 326) (z := (112 : Int32)) d7_326 (by decide) ?_
    refine Own.W.castore (pc := 328) d7_328 (by decide) (i := 21) (by decide) (by simp) (u := .int 112) (by decide) (vs' := [.int 115, .int 116, .int 97, .int 114, .int 116, .int 58, .int 32, .int 109, .int 105, .int 115, .int 115, .int 105, .int 110, .int 103, .int 58, .int 32, .int a, .int b, .int 32, .int 100, .int 101, .int 112, .int 0, .int 0, .int 0, .int 0, .int 0, .int 0, .int 0, .int 0]) rfl Own.Upd.head ?_
    refine Own.W.dup (pc := 329) d7_329 rfl ?_
    refine Own.W.bipush (pc := 330) (z := (22 : Int32)) d7_330 (by decide) ?_
    refine Own.W.bipush (pc := 332) (z := (101 : Int32)) d7_332 (by decide) ?_
    refine Own.W.castore (pc := 334) d7_334 (by decide) (i := 22) (by decide) (by simp) (u := .int 101) (by decide) (vs' := [.int 115, .int 116, .int 97, .int 114, .int 116, .int 58, .int 32, .int 109, .int 105, .int 115, .int 115, .int 105, .int 110, .int 103, .int 58, .int 32, .int a, .int b, .int 32, .int 100, .int 101, .int 112, .int 101, .int 0, .int 0, .int 0, .int 0, .int 0, .int 0, .int 0]) rfl Own.Upd.head ?_
    refine Own.W.dup (pc := 335) d7_335 rfl ?_
    refine Own.W.bipush (pc := 336) (z := (23 : Int32)) d7_336 (by decide) ?_
    refine Own.W.bipush (pc := 338) (z := (110 : Int32)) d7_338 (by decide) ?_
    refine Own.W.castore (pc := 340) d7_340 (by decide) (i := 23) (by decide) (by simp) (u := .int 110) (by decide) (vs' := [.int 115, .int 116, .int 97, .int 114, .int 116, .int 58, .int 32, .int 109, .int 105, .int 115, .int 115, .int 105, .int 110, .int 103, .int 58, .int 32, .int a, .int b, .int 32, .int 100, .int 101, .int 112, .int 101, .int 110, .int 0, .int 0, .int 0, .int 0, .int 0, .int 0]) rfl Own.Upd.head ?_
    refine Own.W.dup (pc := 341) d7_341 rfl ?_
    refine Own.W.bipush (pc := 342) (z := (24 : Int32)) d7_342 (by decide) ?_
    refine Own.W.bipush (pc := 344) (z := (100 : Int32)) d7_344 (by decide) ?_
    refine Own.W.castore (pc := 346) d7_346 (by decide) (i := 24) (by decide) (by simp) (u := .int 100) (by decide) (vs' := [.int 115, .int 116, .int 97, .int 114, .int 116, .int 58, .int 32, .int 109, .int 105, .int 115, .int 115, .int 105, .int 110, .int 103, .int 58, .int 32, .int a, .int b, .int 32, .int 100, .int 101, .int 112, .int 101, .int 110, .int 100, .int 0, .int 0, .int 0, .int 0, .int 0]) rfl Own.Upd.head ?_
    refine Own.W.dup (pc := 347) d7_347 rfl ?_
    refine Own.W.bipush (pc := 348) (z := (25 : Int32)) d7_348 (by decide) ?_
    refine Own.W.bipush (pc := 350) (z := (115 : Int32)) d7_350 (by decide) ?_
    refine Own.W.castore (pc := 352) d7_352 (by decide) (i := 25) (by decide) (by simp) (u := .int 115) (by decide) (vs' := [.int 115, .int 116, .int 97, .int 114, .int 116, .int 58, .int 32, .int 109, .int 105, .int 115, .int 115, .int 105, .int 110, .int 103, .int 58, .int 32, .int a, .int b, .int 32, .int 100, .int 101, .int 112, .int 101, .int 110, .int 100, .int 115, .int 0, .int 0, .int 0, .int 0]) rfl Own.Upd.head ?_
    refine Own.W.dup (pc := 353) d7_353 rfl ?_
    refine Own.W.bipush (pc := 354) (z := (26 : Int32)) d7_354 (by decide) ?_
    refine Own.W.bipush (pc := 356) (z := (32 : Int32)) d7_356 (by decide) ?_
    refine Own.W.castore (pc := 358) d7_358 (by decide) (i := 26) (by decide) (by simp) (u := .int 32) (by decide) (vs' := [.int 115, .int 116, .int 97, .int 114, .int 116, .int 58, .int 32, .int 109, .int 105, .int 115, .int 115, .int 105, .int 110, .int 103, .int 58, .int 32, .int a, .int b, .int 32, .int 100, .int 101, .int 112, .int 101, .int 110, .int 100, .int 115, .int 32, .int 0, .int 0, .int 0]) rfl Own.Upd.head ?_
    refine Own.W.dup (pc := 359) d7_359 rfl ?_
    refine Own.W.bipush (pc := 360) (z := (27 : Int32)) d7_360 (by decide) ?_
    refine Own.W.bipush (pc := 362) (z := (111 : Int32)) d7_362 (by decide) ?_
    refine Own.W.castore (pc := 364) d7_364 (by decide) (i := 27) (by decide) (by simp) (u := .int 111) (by decide) (vs' := [.int 115, .int 116, .int 97, .int 114, .int 116, .int 58, .int 32, .int 109, .int 105, .int 115, .int 115, .int 105, .int 110, .int 103, .int 58, .int 32, .int a, .int b, .int 32, .int 100, .int 101, .int 112, .int 101, .int 110, .int 100, .int 115, .int 32, .int 111, .int 0, .int 0]) rfl Own.Upd.head ?_
    refine Own.W.dup (pc := 365) d7_365 rfl ?_
    refine Own.W.bipush (pc := 366) (z := (28 : Int32)) d7_366 (by decide) ?_
    refine Own.W.bipush (pc := 368) (z := (110 : Int32)) d7_368 (by decide) ?_
    refine Own.W.castore (pc := 370) d7_370 (by decide) (i := 28) (by decide) (by simp) (u := .int 110) (by decide) (vs' := [.int 115, .int 116, .int 97, .int 114, .int 116, .int 58, .int 32, .int 109, .int 105, .int 115, .int 115, .int 105, .int 110, .int 103, .int 58, .int 32, .int a, .int b, .int 32, .int 100, .int 101, .int 112, .int 101, .int 110, .int 100, .int 115, .int 32, .int 111, .int 110, .int 0]) rfl Own.Upd.head ?_
    refine Own.W.dup (pc := 371) d7_371 rfl ?_
    refine Own.W.bipush (pc := 372) (z := (29 : Int32)) d7_372 (by decide) ?_
    refine Own.W.bipush (pc := 374) (z := (32 : Int32)) d7_374 (by decide) ?_
    refine Own.W.castore (pc := 376) d7_376 (by decide) (i := 29) (by decide) (by simp) (u := .int 32) (by decide) (vs' := [.int 115, .int 116, .int 97, .int 114, .int 116, .int 58, .int 32, .int 109, .int 105, .int 115, .int 115, .int 105, .int 110, .int 103, .int 58, .int 32, .int a, .int b, .int 32, .int 100, .int 101, .int 112, .int 101, .int 110, .int 100, .int 115, .int 32, .int 111, .int 110, .int 32]) rfl Own.Upd.head ?_
    refine Own.W.aret (pc := 377) d7_377 rfl rfl rfl ?_ (Nat.le_of_ble_eq_true rfl) (Nat.le_of_ble_eq_true rfl)
    exact ⟨_, rfl, rfl, rfl⟩
  · refine Own.W.iloadN (pc := 0) d7_0 rfl ?_
    refine Own.W.if_ne (pc := 1) 197 d7_1 (by decide) (by decide) ?_ (fun h1 => absurd h1 (by decide))
    intro h1
    refine Own.W.iloadN (pc := 197) d7_197 rfl ?_
    refine Own.W.if_ne (pc := 198) 378 d7_198 (by decide) (by decide) ?_ (fun h198 => absurd h198 (by decide))
    intro h198
    refine Own.W.iloadN (pc := 378) d7_378 rfl ?_
    refine Own.W.if_ne (pc := 379) 561 d7_379 (by decide) (by decide) (fun h379 => absurd h379 (fun q => q rfl)) ?_
    intro h379
    refine Own.W.bipush (pc := 382) (z := (30 : Int32)) d7_382 (by decide) ?_
    refine Own.W.newP (pc := 384) 30 (hw _ (List.mem_of_getElem? (i := 0) rfl)) d7_384 rfl (by decide) (Nat.le_of_ble_eq_true rfl) (by decide) (vs := [.int 0, .int 0, .int 0, .int 0, .int 0, .int 0, .int 0, .int 0, .int 0, .int 0, .int 0, .int 0, .int 0, .int 0, .int 0, .int 0, .int 0, .int 0, .int 0, .int 0, .int 0, .int 0, .int 0, .int 0, .int 0, .int 0, .int 0, .int 0, .int 0, .int 0]) rfl (Nat.le_of_ble_eq_true rfl) (Nat.le_of_ble_eq_true rfl) ?_
    intro o384
    refine Own.W.dup (pc := 386) d7_386 rfl ?_
    refine Own.W.iconst (pc := 387) (z := (0 : Int32)) d7_387 (by decide) ?_
    refine Own.W.bipush (pc := 388) (z := (115 : Int32)) d7_388 (by decide) ?_
    refine Own.W.castore (pc := 390) d7_390 (by decide) (i := 0) (by decide) (by simp) (u := .int 115) (by decide) (vs' := [.int 115, .int 0, .int 0, .int 0, .int 0, .int 0, .int 0, .int 0, .int 0, .int 0, .int 0, .int 0, .int 0, .int 0, .int 0, .int 0, .int 0, .int 0, .int 0, .int 0, .int 0, .int 0, .int 0, .int 0, .int 0, .int 0, .int 0, .int 0, .int 0, .int 0]) rfl Own.Upd.head ?_
    refine Own.W.dup (pc := 391) d7_391 rfl ?_
    refine Own.W.iconst (pc := 392) (z := (1 : Int32)) d7_392 (by decide) ?_
    refine Own.W.bipush (pc := 393) (z := (116 : Int32)) d7_393 (by decide) ?_
    refine Own.W.castore (pc := 395) d7_395 (by decide) (i := 1) (by decide) (by simp) (u := .int 116) (by decide) (vs' := [.int 115, .int 116, .int 0, .int 0, .int 0, .int 0, .int 0, .int 0, .int 0, .int 0, .int 0, .int 0, .int 0, .int 0, .int 0, .int 0, .int 0, .int 0, .int 0, .int 0, .int 0, .int 0, .int 0, .int 0, .int 0, .int 0, .int 0, .int 0, .int 0, .int 0]) rfl Own.Upd.head ?_
    refine Own.W.dup (pc := 396) d7_396 rfl ?_
    refine Own.W.iconst (pc := 397) (z := (2 : Int32)) d7_397 (by decide) ?_
    refine Own.W.bipush (pc := 398) (z := (97 : Int32)) d7_398 (by decide) ?_
    refine Own.W.castore (pc := 400) d7_400 (by decide) (i := 2) (by decide) (by simp) (u := .int 97) (by decide) (vs' := [.int 115, .int 116, .int 97, .int 0, .int 0, .int 0, .int 0, .int 0, .int 0, .int 0, .int 0, .int 0, .int 0, .int 0, .int 0, .int 0, .int 0, .int 0, .int 0, .int 0, .int 0, .int 0, .int 0, .int 0, .int 0, .int 0, .int 0, .int 0, .int 0, .int 0]) rfl Own.Upd.head ?_
    refine Own.W.dup (pc := 401) d7_401 rfl ?_
    refine Own.W.iconst (pc := 402) (z := (3 : Int32)) d7_402 (by decide) ?_
    refine Own.W.bipush (pc := 403) (z := (114 : Int32)) d7_403 (by decide) ?_
    refine Own.W.castore (pc := 405) d7_405 (by decide) (i := 3) (by decide) (by simp) (u := .int 114) (by decide) (vs' := [.int 115, .int 116, .int 97, .int 114, .int 0, .int 0, .int 0, .int 0, .int 0, .int 0, .int 0, .int 0, .int 0, .int 0, .int 0, .int 0, .int 0, .int 0, .int 0, .int 0, .int 0, .int 0, .int 0, .int 0, .int 0, .int 0, .int 0, .int 0, .int 0, .int 0]) rfl Own.Upd.head ?_
    refine Own.W.dup (pc := 406) d7_406 rfl ?_
    refine Own.W.iconst (pc := 407) (z := (4 : Int32)) d7_407 (by decide) ?_
    refine Own.W.bipush (pc := 408) (z := (116 : Int32)) d7_408 (by decide) ?_
    refine Own.W.castore (pc := 410) d7_410 (by decide) (i := 4) (by decide) (by simp) (u := .int 116) (by decide) (vs' := [.int 115, .int 116, .int 97, .int 114, .int 116, .int 0, .int 0, .int 0, .int 0, .int 0, .int 0, .int 0, .int 0, .int 0, .int 0, .int 0, .int 0, .int 0, .int 0, .int 0, .int 0, .int 0, .int 0, .int 0, .int 0, .int 0, .int 0, .int 0, .int 0, .int 0]) rfl Own.Upd.head ?_
    refine Own.W.dup (pc := 411) d7_411 rfl ?_
    refine Own.W.iconst (pc := 412) (z := (5 : Int32)) d7_412 (by decide) ?_
    refine Own.W.bipush (pc := 413) (z := (58 : Int32)) d7_413 (by decide) ?_
    refine Own.W.castore (pc := 415) d7_415 (by decide) (i := 5) (by decide) (by simp) (u := .int 58) (by decide) (vs' := [.int 115, .int 116, .int 97, .int 114, .int 116, .int 58, .int 0, .int 0, .int 0, .int 0, .int 0, .int 0, .int 0, .int 0, .int 0, .int 0, .int 0, .int 0, .int 0, .int 0, .int 0, .int 0, .int 0, .int 0, .int 0, .int 0, .int 0, .int 0, .int 0, .int 0]) rfl Own.Upd.head ?_
    refine Own.W.dup (pc := 416) d7_416 rfl ?_
    refine Own.W.bipush (pc := 417) (z := (6 : Int32)) d7_417 (by decide) ?_
    refine Own.W.bipush (pc := 419) (z := (32 : Int32)) d7_419 (by decide) ?_
    refine Own.W.castore (pc := 421) d7_421 (by decide) (i := 6) (by decide) (by simp) (u := .int 32) (by decide) (vs' := [.int 115, .int 116, .int 97, .int 114, .int 116, .int 58, .int 32, .int 0, .int 0, .int 0, .int 0, .int 0, .int 0, .int 0, .int 0, .int 0, .int 0, .int 0, .int 0, .int 0, .int 0, .int 0, .int 0, .int 0, .int 0, .int 0, .int 0, .int 0, .int 0, .int 0]) rfl Own.Upd.head ?_
    refine Own.W.dup (pc := 422) d7_422 rfl ?_
    refine Own.W.bipush (pc := 423) (z := (7 : Int32)) d7_423 (by decide) ?_
    refine Own.W.bipush (pc := 425) (z := (109 : Int32)) d7_425 (by decide) ?_
    refine Own.W.castore (pc := 427) d7_427 (by decide) (i := 7) (by decide) (by simp) (u := .int 109) (by decide) (vs' := [.int 115, .int 116, .int 97, .int 114, .int 116, .int 58, .int 32, .int 109, .int 0, .int 0, .int 0, .int 0, .int 0, .int 0, .int 0, .int 0, .int 0, .int 0, .int 0, .int 0, .int 0, .int 0, .int 0, .int 0, .int 0, .int 0, .int 0, .int 0, .int 0, .int 0]) rfl Own.Upd.head ?_
    refine Own.W.dup (pc := 428) d7_428 rfl ?_
    refine Own.W.bipush (pc := 429) (z := (8 : Int32)) d7_429 (by decide) ?_
    refine Own.W.bipush (pc := 431) (z := (105 : Int32)) d7_431 (by decide) ?_
    refine Own.W.castore (pc := 433) d7_433 (by decide) (i := 8) (by decide) (by simp) (u := .int 105) (by decide) (vs' := [.int 115, .int 116, .int 97, .int 114, .int 116, .int 58, .int 32, .int 109, .int 105, .int 0, .int 0, .int 0, .int 0, .int 0, .int 0, .int 0, .int 0, .int 0, .int 0, .int 0, .int 0, .int 0, .int 0, .int 0, .int 0, .int 0, .int 0, .int 0, .int 0, .int 0]) rfl Own.Upd.head ?_
    refine Own.W.dup (pc := 434) d7_434 rfl ?_
    refine Own.W.bipush (pc := 435) (z := (9 : Int32)) d7_435 (by decide) ?_
    refine Own.W.bipush (pc := 437) (z := (115 : Int32)) d7_437 (by decide) ?_
    refine Own.W.castore (pc := 439) d7_439 (by decide) (i := 9) (by decide) (by simp) (u := .int 115) (by decide) (vs' := [.int 115, .int 116, .int 97, .int 114, .int 116, .int 58, .int 32, .int 109, .int 105, .int 115, .int 0, .int 0, .int 0, .int 0, .int 0, .int 0, .int 0, .int 0, .int 0, .int 0, .int 0, .int 0, .int 0, .int 0, .int 0, .int 0, .int 0, .int 0, .int 0, .int 0]) rfl Own.Upd.head ?_
    refine Own.W.dup (pc := 440) d7_440 rfl ?_
    refine Own.W.bipush (pc := 441) (z := (10 : Int32)) d7_441 (by decide) ?_
    refine Own.W.bipush (pc := 443) (z := (115 : Int32)) d7_443 (by decide) ?_
    refine Own.W.castore (pc := 445) d7_445 (by decide) (i := 10) (by decide) (by simp) (u := .int 115) (by decide) (vs' := [.int 115, .int 116, .int 97, .int 114, .int 116, .int 58, .int 32, .int 109, .int 105, .int 115, .int 115, .int 0, .int 0, .int 0, .int 0, .int 0, .int 0, .int 0, .int 0, .int 0, .int 0, .int 0, .int 0, .int 0, .int 0, .int 0, .int 0, .int 0, .int 0, .int 0]) rfl Own.Upd.head ?_
    refine Own.W.dup (pc := 446) d7_446 rfl ?_
    refine Own.W.bipush (pc := 447) (z := (11 : Int32)) d7_447 (by decide) ?_
    refine Own.W.bipush (pc := 449) (z := (105 : Int32)) d7_449 (by decide) ?_
    refine Own.W.castore (pc := 451) d7_451 (by decide) (i := 11) (by decide) (by simp) (u := .int 105) (by decide) (vs' := [.int 115, .int 116, .int 97, .int 114, .int 116, .int 58, .int 32, .int 109, .int 105, .int 115, .int 115, .int 105, .int 0, .int 0, .int 0, .int 0, .int 0, .int 0, .int 0, .int 0, .int 0, .int 0, .int 0, .int 0, .int 0, .int 0, .int 0, .int 0, .int 0, .int 0]) rfl Own.Upd.head ?_
    refine Own.W.dup (pc := 452) d7_452 rfl ?_
    refine Own.W.bipush (pc := 453) (z := (12 : Int32)) d7_453 (by decide) ?_
    refine Own.W.bipush (pc := 455) (z := (110 : Int32)) d7_455 (by decide) ?_
    refine Own.W.castore (pc := 457) d7_457 (by decide) (i := 12) (by decide) (by simp) (u := .int 110) (by decide) (vs' := [.int 115, .int 116, .int 97, .int 114, .int 116, .int 58, .int 32, .int 109, .int 105, .int 115, .int 115, .int 105, .int 110, .int 0, .int 0, .int 0, .int 0, .int 0, .int 0, .int 0, .int 0, .int 0, .int 0, .int 0, .int 0, .int 0, .int 0, .int 0, .int 0, .int 0]) rfl Own.Upd.head ?_
    refine Own.W.dup (pc := 458) d7_458 rfl ?_
    refine Own.W.bipush (pc := 459) (z := (13 : Int32)) d7_459 (by decide) ?_
    refine Own.W.bipush (pc := 461) (z := (103 : Int32)) d7_461 (by decide) ?_
    refine Own.W.castore (pc := 463) d7_463 (by decide) (i := 13) (by decide) (by simp) (u := .int 103) (by decide) (vs' := [.int 115, .int 116, .int 97, .int 114, .int 116, .int 58, .int 32, .int 109, .int 105, .int 115, .int 115, .int 105, .int 110, .int 103, .int 0, .int 0, .int 0, .int 0, .int 0, .int 0, .int 0, .int 0, .int 0, .int 0, .int 0, .int 0, .int 0, .int 0, .int 0, .int 0]) rfl Own.Upd.head ?_
    refine Own.W.dup (pc := 464) d7_464 rfl ?_
    refine Own.W.bipush (pc := 465) (z := (14 : Int32)) d7_465 (by decide) ?_
    refine Own.W.bipush (pc := 467) (z := (58 : Int32)) d7_467 (by decide) ?_
    refine Own.W.castore (pc := 469) d7_469 (by decide) (i := 14) (by decide) (by simp) (u := .int 58) (by decide) (vs' := [.int 115, .int 116, .int 97, .int 114, .int 116, .int 58, .int 32, .int 109, .int 105, .int 115, .int 115, .int 105, .int 110, .int 103, .int 58, .int 0, .int 0, .int 0, .int 0, .int 0, .int 0, .int 0, .int 0, .int 0, .int 0, .int 0, .int 0, .int 0, .int 0, .int 0]) rfl Own.Upd.head ?_
    refine Own.W.dup (pc := 470) d7_470 rfl ?_
    refine Own.W.bipush (pc := 471) (z := (15 : Int32)) d7_471 (by decide) ?_
    refine Own.W.bipush (pc := 473) (z := (32 : Int32)) d7_473 (by decide) ?_
    refine Own.W.castore (pc := 475) d7_475 (by decide) (i := 15) (by decide) (by simp) (u := .int 32) (by decide) (vs' := [.int 115, .int 116, .int 97, .int 114, .int 116, .int 58, .int 32, .int 109, .int 105, .int 115, .int 115, .int 105, .int 110, .int 103, .int 58, .int 32, .int 0, .int 0, .int 0, .int 0, .int 0, .int 0, .int 0, .int 0, .int 0, .int 0, .int 0, .int 0, .int 0, .int 0]) rfl Own.Upd.head ?_
    refine Own.W.dup (pc := 476) d7_476 rfl ?_
    refine Own.W.bipush (pc := 477) (z := (16 : Int32)) d7_477 (by decide) ?_
    refine Own.W.bipush (pc := 479) (z := (32 : Int32)) d7_479 (by decide) ?_
    refine Own.W.castore (pc := 481) d7_481 (by decide) (i := 16) (by decide) (by simp) (u := .int 32) (by decide) (vs' := [.int 115, .int 116, .int 97, .int 114, .int 116, .int 58, .int 32, .int 109, .int 105, .int 115, .int 115, .int 105, .int 110, .int 103, .int 58, .int 32, .int 32, .int 0, .int 0, .int 0, .int 0, .int 0, .int 0, .int 0, .int 0, .int 0, .int 0, .int 0, .int 0, .int 0]) rfl Own.Upd.head ?_
    refine Own.W.dup (pc := 482) d7_482 rfl ?_
    refine Own.W.bipush (pc := 483) (z := (17 : Int32)) d7_483 (by decide) ?_
    refine Own.W.bipush (pc := 485) (z := (100 : Int32)) d7_485 (by decide) ?_
    refine Own.W.castore (pc := 487) d7_487 (by decide) (i := 17) (by decide) (by simp) (u := .int 100) (by decide) (vs' := [.int 115, .int 116, .int 97, .int 114, .int 116, .int 58, .int 32, .int 109, .int 105, .int 115, .int 115, .int 105, .int 110, .int 103, .int 58, .int 32, .int 32, .int 100, .int 0, .int 0, .int 0, .int 0, .int 0, .int 0, .int 0, .int 0, .int 0, .int 0, .int 0, .int 0]) rfl Own.Upd.head ?_
    refine Own.W.dup (pc := 488) d7_488 rfl ?_
    refine Own.W.bipush (pc := 489) (z := (18 : Int32)) d7_489 (by decide) ?_
    refine Own.W.bipush (pc := 491) (z := (101 : Int32)) d7_491 (by decide) ?_
    refine Own.W.castore (pc := 493) d7_493 (by decide) (i := 18) (by decide) (by simp) (u := .int 101) (by decide) (vs' := [.int 115, .int 116, .int 97, .int 114, .int 116, .int 58, .int 32, .int 109, .int 105, .int 115, .int 115, .int 105, .int 110, .int 103, .int 58, .int 32, .int 32, .int 100, .int 101, .int 0, .int 0, .int 0, .int 0, .int 0, .int 0, .int 0, .int 0, .int 0, .int 0, .int 0]) rfl Own.Upd.head ?_
    refine Own.W.dup (pc := 494) d7_494 rfl ?_
    refine Own.W.bipush (pc := 495) (z := (19 : Int32)) d7_495 (by decide) ?_
    refine Own.W.bipush (pc := 497) (z := (112 : Int32)) d7_497 (by decide) ?_
    refine Own.W.castore (pc := 499) d7_499 (by decide) (i := 19) (by decide) (by simp) (u := .int 112) (by decide) (vs' := [.int 115, .int 116, .int 97, .int 114, .int 116, .int 58, .int 32, .int 109, .int 105, .int 115, .int 115, .int 105, .int 110, .int 103, .int 58, .int 32, .int 32, .int 100, .int 101, .int 112, .int 0, .int 0, .int 0, .int 0, .int 0, .int 0, .int 0, .int 0, .int 0, .int 0]) rfl Own.Upd.head ?_
    refine Own.W.dup (pc := 500) d7_500 rfl ?_
    refine Own.W.bipush (pc := 501) (z := (20 : Int32)) d7_501 (by decide) ?_
    refine Own.W.bipush (pc := 503) (z := (101 : Int32)) d7_503 (by decide) ?_
    refine Own.W.castore (pc := 505) d7_505 (by decide) (i := 20) (by decide) (by simp) (u := .int 101) (by decide) (vs' := [.int 115, .int 116, .int 97, .int 114, .int 116, .int 58, .int 32, .int 109, .int 105, .int 115, .int 115, .int 105, .int 110, .int 103, .int 58, .int 32, .int 32, .int 100, .int 101, .int 112, .int 101, .int 0, .int 0, .int 0, .int 0, .int 0, .int 0, .int 0, .int 0, .int 0]) rfl Own.Upd.head ?_
    refine Own.W.dup (pc := 506) d7_506 rfl ?_
    refine Own.W.bipush (pc := 507) (z := (21 : Int32)) d7_507 (by decide) ?_
    refine Own.W.bipush (pc := 509) (z := (110 : Int32)) d7_509 (by decide) ?_
    refine Own.W.castore (pc := 511) d7_511 (by decide) (i := 21) (by decide) (by simp) (u := .int 110) (by decide) (vs' := [.int 115, .int 116, .int 97, .int 114, .int 116, .int 58, .int 32, .int 109, .int 105, .int 115, .int 115, .int 105, .int 110, .int 103, .int 58, .int 32, .int 32, .int 100, .int 101, .int 112, .int 101, .int 110, .int 0, .int 0, .int 0, .int 0, .int 0, .int 0, .int 0, .int 0]) rfl Own.Upd.head ?_
    refine Own.W.dup (pc := 512) d7_512 rfl ?_
    refine Own.W.bipush (pc := 513) (z := (22 : Int32)) d7_513 (by decide) ?_
    refine Own.W.bipush (pc := 515) (z := (100 : Int32)) d7_515 (by decide) ?_
    refine Own.W.castore (pc := 517) d7_517 (by decide) (i := 22) (by decide) (by simp) (u := .int 100) (by decide) (vs' := [.int 115, .int 116, .int 97, .int 114, .int 116, .int 58, .int 32, .int 109, .int 105, .int 115, .int 115, .int 105, .int 110, .int 103, .int 58, .int 32, .int 32, .int 100, .int 101, .int 112, .int 101, .int 110, .int 100, .int 0, .int 0, .int 0, .int 0, .int 0, .int 0, .int 0]) rfl Own.Upd.head ?_
    refine Own.W.dup (pc := 518) d7_518 rfl ?_
    refine Own.W.bipush (pc := 519) (z := (23 : Int32)) d7_519 (by decide) ?_
    refine Own.W.bipush (pc := 521) (z := (115 : Int32)) d7_521 (by decide) ?_
    refine Own.W.castore (pc := 523) d7_523 (by decide) (i := 23) (by decide) (by simp) (u := .int 115) (by decide) (vs' := [.int 115, .int 116, .int 97, .int 114, .int 116, .int 58, .int 32, .int 109, .int 105, .int 115, .int 115, .int 105, .int 110, .int 103, .int 58, .int 32, .int 32, .int 100, .int 101, .int 112, .int 101, .int 110, .int 100, .int 115, .int 0, .int 0, .int 0, .int 0, .int 0, .int 0]) rfl Own.Upd.head ?_
    refine Own.W.dup (pc := 524) d7_524 rfl ?_
    refine Own.W.bipush (pc := 525) (z := (24 : Int32)) d7_525 (by decide) ?_
    refine Own.W.bipush (pc := 527) (z := (32 : Int32)) d7_527 (by decide) ?_
    refine Own.W.castore (pc := 529) d7_529 (by decide) (i := 24) (by decide) (by simp) (u := .int 32) (by decide) (vs' := [.int 115, .int 116, .int 97, .int 114, .int 116, .int 58, .int 32, .int 109, .int 105, .int 115, .int 115, .int 105, .int 110, .int 103, .int 58, .int 32, .int 32, .int 100, .int 101, .int 112, .int 101, .int 110, .int 100, .int 115, .int 32, .int 0, .int 0, .int 0, .int 0, .int 0]) rfl Own.Upd.head ?_
    refine Own.W.dup (pc := 530) d7_530 rfl ?_
    refine Own.W.bipush (pc := 531) (z := (25 : Int32)) d7_531 (by decide) ?_
    refine Own.W.bipush (pc := 533) (z := (111 : Int32)) d7_533 (by decide) ?_
    refine Own.W.castore (pc := 535) d7_535 (by decide) (i := 25) (by decide) (by simp) (u := .int 111) (by decide) (vs' := [.int 115, .int 116, .int 97, .int 114, .int 116, .int 58, .int 32, .int 109, .int 105, .int 115, .int 115, .int 105, .int 110, .int 103, .int 58, .int 32, .int 32, .int 100, .int 101, .int 112, .int 101, .int 110, .int 100, .int 115, .int 32, .int 111, .int 0, .int 0, .int 0, .int 0]) rfl Own.Upd.head ?_
    refine Own.W.dup (pc := 536) d7_536 rfl ?_
    refine Own.W.bipush (pc := 537) (z := (26 : Int32)) d7_537 (by decide) ?_
    refine Own.W.bipush (pc := 539) (z := (110 : Int32)) d7_539 (by decide) ?_
    refine Own.W.castore (pc := 541) d7_541 (by decide) (i := 26) (by decide) (by simp) (u := .int 110) (by decide) (vs' := [.int 115, .int 116, .int 97, .int 114, .int 116, .int 58, .int 32, .int 109, .int 105, .int 115, .int 115, .int 105, .int 110, .int 103, .int 58, .int 32, .int 32, .int 100, .int 101, .int 112, .int 101, .int 110, .int 100, .int 115, .int 32, .int 111, .int 110, .int 0, .int 0, .int 0]) rfl Own.Upd.head ?_
    refine Own.W.dup (pc := 542) d7_542 rfl ?_
    refine Own.W.bipush (pc := 543) (z := (27 : Int32)) d7_543 (by decide) ?_
    refine Own.W.bipush (pc := 545) (z := (32 : Int32)) d7_545 (by decide) ?_
    refine Own.W.castore (pc := 547) d7_547 (by decide) (i := 27) (by decide) (by simp) (u := .int 32) (by decide) (vs' := [.int 115, .int 116, .int 97, .int 114, .int 116, .int 58, .int 32, .int 109, .int 105, .int 115, .int 115, .int 105, .int 110, .int 103, .int 58, .int 32, .int 32, .int 100, .int 101, .int 112, .int 101, .int 110, .int 100, .int 115, .int 32, .int 111, .int 110, .int 32, .int 0, .int 0]) rfl Own.Upd.head ?_
    refine Own.W.dup (pc := 548) d7_548 rfl ?_
    refine Own.W.bipush (pc := 549) (z := (28 : Int32)) d7_549 (by decide) ?_
    refine Own.W.iload (pc := 551) d7_551 rfl ?_
    refine Own.W.castore (pc := 553) d7_553 (by decide) (i := 28) (by decide) (by simp) (u := .int d) (congrArg Value.int (own_nar hd)) (vs' := [.int 115, .int 116, .int 97, .int 114, .int 116, .int 58, .int 32, .int 109, .int 105, .int 115, .int 115, .int 105, .int 110, .int 103, .int 58, .int 32, .int 32, .int 100, .int 101, .int 112, .int 101, .int 110, .int 100, .int 115, .int 32, .int 111, .int 110, .int 32, .int d, .int 0]) rfl Own.Upd.head ?_
    refine Own.W.dup (pc := 554) d7_554 rfl ?_
    refine Own.W.bipush (pc := 555) (z := (29 : Int32)) d7_555 (by decide) ?_
    refine Own.W.iload (pc := 557) d7_557 rfl ?_
    refine Own.W.castore (pc := 559) d7_559 (by decide) (i := 29) (by decide) (by simp) (u := .int e) (congrArg Value.int (own_nar he)) (vs' := [.int 115, .int 116, .int 97, .int 114, .int 116, .int 58, .int 32, .int 109, .int 105, .int 115, .int 115, .int 105, .int 110, .int 103, .int 58, .int 32, .int 32, .int 100, .int 101, .int 112, .int 101, .int 110, .int 100, .int 115, .int 32, .int 111, .int 110, .int 32, .int d, .int e]) rfl Own.Upd.head ?_
    refine Own.W.aret (pc := 560) d7_560 rfl rfl rfl ?_ (Nat.le_of_ble_eq_true rfl) (Nat.le_of_ble_eq_true rfl)
    exact ⟨_, rfl, rfl, rfl⟩
  · refine Own.W.iloadN (pc := 0) d7_0 rfl ?_
    refine Own.W.if_ne (pc := 1) 197 d7_1 (by decide) (by decide) ?_ (fun h1 => absurd h1 (by decide))
    intro h1
    refine Own.W.iloadN (pc := 197) d7_197 rfl ?_
    refine Own.W.if_ne (pc := 198) 378 d7_198 (by decide) (by decide) ?_ (fun h198 => absurd h198 (by decide))
    intro h198
    refine Own.W.iloadN (pc := 378) d7_378 rfl ?_
    refine Own.W.if_ne (pc := 379) 561 d7_379 (by decide) (by decide) ?_ (fun h379 => absurd h379 (by decide))
    intro h379
    refine Own.W.bipush (pc := 561) (z := (28 : Int32)) d7_561 (by decide) ?_
    refine Own.W.newP (pc := 563) 28 (hw _ (List.mem_of_getElem? (i := 0) rfl)) d7_563 rfl (by decide) (Nat.le_of_ble_eq_true rfl) (by decide) (vs := [.int 0, .int 0, .int 0, .int 0, .int 0, .int 0, .int 0, .int 0, .int 0, .int 0, .int 0, .int 0, .int 0, .int 0, .int 0, .int 0, .int 0, .int 0, .int 0, .int 0, .int 0, .int 0, .int 0, .int 0, .int 0, .int 0, .int 0, .int 0]) rfl (Nat.le_of_ble_eq_true rfl) (Nat.le_of_ble_eq_true rfl) ?_
    intro o563
    refine Own.W.dup (pc := 565) d7_565 rfl ?_
    refine Own.W.iconst (pc := 566) (z := (0 : Int32)) d7_566 (by decide) ?_
    refine Own.W.bipush (pc := 567) (z := (115 : Int32)) d7_567 (by decide) ?_
    refine Own.W.castore (pc := 569) d7_569 (by decide) (i := 0) (by decide) (by simp) (u := .int 115) (by decide) (vs' := [.int 115, .int 0, .int 0, .int 0, .int 0, .int 0, .int 0, .int 0, .int 0, .int 0, .int 0, .int 0, .int 0, .int 0, .int 0, .int 0, .int 0, .int 0, .int 0, .int 0, .int 0, .int 0, .int 0, .int 0, .int 0, .int 0, .int 0, .int 0]) rfl Own.Upd.head ?_
    refine Own.W.dup (pc := 570) d7_570 rfl ?_
    refine Own.W.iconst (pc := 571) (z := (1 : Int32)) d7_571 (by decide) ?_
    refine Own.W.bipush (pc := 572) (z := (116 : Int32)) d7_572 (by decide) ?_
    refine Own.W.castore (pc := 574) d7_574 (by decide) (i := 1) (by decide) (by simp) (u := .int 116) (by decide) (vs' := [.int 115, .int 116, .int 0, .int 0, .int 0, .int 0, .int 0, .int 0, .int 0, .int 0, .int 0, .int 0, .int 0, .int 0, .int 0, .int 0, .int 0, .int 0, .int 0, .int 0, .int 0, .int 0, .int 0, .int 0, .int 0, .int 0, .int 0, .int 0]) rfl Own.Upd.head ?_
    refine Own.W.dup (pc := 575) d7_575 rfl ?_
    refine Own.W.iconst (pc := 576) (z := (2 : Int32)) d7_576 (by decide) ?_
    refine Own.W.bipush (pc := 577) (z := (97 : Int32)) d7_577 (by decide) ?_
    refine Own.W.castore (pc := 579) d7_579 (by decide) (i := 2) (by decide) (by simp) (u := .int 97) (by decide) (vs' := [.int 115, .int 116, .int 97, .int 0, .int 0, .int 0, .int 0, .int 0, .int 0, .int 0, .int 0, .int 0, .int 0, .int 0, .int 0, .int 0, .int 0, .int 0, .int 0, .int 0, .int 0, .int 0, .int 0, .int 0, .int 0, .int 0, .int 0, .int 0]) rfl Own.Upd.head ?_
    refine Own.W.dup (pc := 580) d7_580 rfl ?_
    refine Own.W.iconst (pc := 581) (z := (3 : Int32)) d7_581 (by decide) ?_
    refine Own.W.bipush (pc := 582) (z := (114 : Int32)) d7_582 (by decide) ?_
    refine Own.W.castore (pc := 584) d7_584 (by decide) (i := 3) (by decide) (by simp) (u := .int 114) (by decide) (vs' := [.int 115, .int 116, .int 97, .int 114, .int 0, .int 0, .int 0, .int 0, .int 0, .int 0, .int 0, .int 0, .int 0, .int 0, .int 0, .int 0, .int 0, .int 0, .int 0, .int 0, .int 0, .int 0, .int 0, .int 0, .int 0, .int 0, .int 0, .int 0]) rfl Own.Upd.head ?_
    refine Own.W.dup (pc := 585) d7_585 rfl ?_
    refine Own.W.iconst (pc := 586) (z := (4 : Int32)) d7_586 (by decide) ?_
    refine Own.W.bipush (pc := 587) (z := (116 : Int32)) d7_587 (by decide) ?_
    refine Own.W.castore (pc := 589) d7_589 (by decide) (i := 4) (by decide) (by simp) (u := .int 116) (by decide) (vs' := [.int 115, .int 116, .int 97, .int 114, .int 116, .int 0, .int 0, .int 0, .int 0, .int 0, .int 0, .int 0, .int 0, .int 0, .int 0, .int 0, .int 0, .int 0, .int 0, .int 0, .int 0, .int 0, .int 0, .int 0, .int 0, .int 0, .int 0, .int 0]) rfl Own.Upd.head ?_
    refine Own.W.dup (pc := 590) d7_590 rfl ?_
    refine Own.W.iconst (pc := 591) (z := (5 : Int32)) d7_591 (by decide) ?_
    refine Own.W.bipush (pc := 592) (z := (58 : Int32)) d7_592 (by decide) ?_
    refine Own.W.castore (pc := 594) d7_594 (by decide) (i := 5) (by decide) (by simp) (u := .int 58) (by decide) (vs' := [.int 115, .int 116, .int 97, .int 114, .int 116, .int 58, .int 0, .int 0, .int 0, .int 0, .int 0, .int 0, .int 0, .int 0, .int 0, .int 0, .int 0, .int 0, .int 0, .int 0, .int 0, .int 0, .int 0, .int 0, .int 0, .int 0, .int 0, .int 0]) rfl Own.Upd.head ?_
    refine Own.W.dup (pc := 595) d7_595 rfl ?_
    refine Own.W.bipush (pc := 596) (z := (6 : Int32)) d7_596 (by decide) ?_
    refine Own.W.bipush (pc := 598) (z := (32 : Int32)) d7_598 (by decide) ?_
    refine Own.W.castore (pc := 600) d7_600 (by decide) (i := 6) (by decide) (by simp) (u := .int 32) (by decide) (vs' := [.int 115, .int 116, .int 97, .int 114, .int 116, .int 58, .int 32, .int 0, .int 0, .int 0, .int 0, .int 0, .int 0, .int 0, .int 0, .int 0, .int 0, .int 0, .int 0, .int 0, .int 0, .int 0, .int 0, .int 0, .int 0, .int 0, .int 0, .int 0]) rfl Own.Upd.head ?_
    refine Own.W.dup (pc := 601) d7_601 rfl ?_
    refine Own.W.bipush (pc := 602) (z := (7 : Int32)) d7_602 (by decide) ?_
    refine Own.W.bipush (pc := 604) (z := (109 : Int32)) d7_604 (by decide) ?_
    refine Own.W.castore (pc := 606) d7_606 (by decide) (i := 7) (by decide) (by simp) (u := .int 109) (by decide) (vs' := [.int 115, .int 116, .int 97, .int 114, .int 116, .int 58, .int 32, .int 109, .int 0, .int 0, .int 0, .int 0, .int 0, .int 0, .int 0, .int 0, .int 0, .int 0, .int 0, .int 0, .int 0, .int 0, .int 0, .int 0, .int 0, .int 0, .int 0, .int 0]) rfl Own.Upd.head ?_
    refine Own.W.dup (pc := 607) d7_607 rfl ?_
    refine Own.W.bipush (pc := 608) (z := (8 : Int32)) d7_608 (by decide) ?_
    refine Own.W.bipush (pc := 610) (z := (105 : Int32)) d7_610 (by decide) ?_
    refine Own.W.castore (pc := 612) d7_612 (by decide) (i := 8) (by decide) (by simp) (u := .int 105) (by decide) (vs' := [.int 115, .int 116, .int 97, .int 114, .int 116, .int 58, .int 32, .int 109, .int 105, .int 0, .int 0, .int 0, .int 0, .int 0, .int 0, .int 0, .int 0, .int 0, .int 0, .int 0, .int 0, .int 0, .int 0, .int 0, .int 0, .int 0, .int 0, .int 0]) rfl Own.Upd.head ?_
    refine Own.W.dup (pc := 613) d7_613 rfl ?_
    refine Own.W.bipush (pc := 614) (z := (9 : Int32)) d7_614 (by decide) ?_
    refine Own.W.bipush (pc := 616) (z := (115 : Int32)) d7_616 (by decide) ?_
    refine Own.W.castore (pc := 618) d7_618 (by decide) (i := 9) (by decide) (by simp) (u := .int 115) (by decide) (vs' := [.int 115, .int 116, .int 97, .int 114, .int 116, .int 58, .int 32, .int 109, .int 105, .int 115, .int 0, .int 0, .int 0, .int 0, .int 0, .int 0, .int 0, .int 0, .int 0, .int 0, .int 0, .int 0, .int 0, .int 0, .int 0, .int 0, .int 0, .int 0]) rfl Own.Upd.head ?_
    refine Own.W.dup (pc := 619) d7_619 rfl ?_
    refine Own.W.bipush (pc := 620) (z := (10 : Int32)) d7_620 (by decide) ?_
    refine Own.W.bipush (pc := 622) (z := (115 : Int32)) d7_622 (by decide) ?_
    refine Own.W.castore (pc := 624) d7_624 (by decide) (i := 10) (by decide) (by simp) (u := .int 115) (by decide) (vs' := [.int 115, .int 116, .int 97, .int 114, .int 116, .int 58, .int 32, .int 109, .int 105, .int 115, .int 115, .int 0, .int 0, .int 0, .int 0, .int 0, .int 0, .int 0, .int 0, .int 0, .int 0, .int 0, .int 0, .int 0, .int 0, .int 0, .int 0, .int 0]) rfl Own.Upd.head ?_
    refine Own.W.dup (pc := 625) d7_625 rfl ?_
    refine Own.W.bipush (pc := 626) (z := (11 : Int32)) d7_626 (by decide) ?_
    refine Own.W.bipush (pc := 628) (z := (105 : Int32)) d7_628 (by decide) ?_
    refine Own.W.castore (pc := 630) d7_630 (by decide) (i := 11) (by decide) (by simp) (u := .int 105) (by decide) (vs' := [.int 115, .int 116, .int 97, .int 114, .int 116, .int 58, .int 32, .int 109, .int 105, .int 115, .int 115, .int 105, .int 0, .int 0, .int 0, .int 0, .int 0, .int 0, .int 0, .int 0, .int 0, .int 0, .int 0, .int 0, .int 0, .int 0, .int 0, .int 0]) rfl Own.Upd.head ?_
    refine Own.W.dup (pc := 631) d7_631 rfl ?_
    refine Own.W.bipush (pc := 632) (z := (12 : Int32)) d7_632 (by decide) ?_
    refine Own.W.bipush (pc := 634) (z := (110 : Int32)) d7_634 (by decide) ?_
    refine Own.W.castore (pc := 636) d7_636 (by decide) (i := 12) (by decide) (by simp) (u := .int 110) (by decide) (vs' := [.int 115, .int 116, .int 97, .int 114, .int 116, .int 58, .int 32, .int 109, .int 105, .int 115, .int 115, .int 105, .int 110, .int 0, .int 0, .int 0, .int 0, .int 0, .int 0, .int 0, .int 0, .int 0, .int 0, .int 0, .int 0, .int 0, .int 0, .int 0]) rfl Own.Upd.head ?_
    refine Own.W.dup (pc := 637) d7_637 rfl ?_
    refine Own.W.bipush (pc := 638) (z := (13 : Int32)) d7_638 (by decide) ?_
    refine Own.W.bipush (pc := 640) (z := (103 : Int32)) d7_640 (by decide) ?_
    refine Own.W.castore (pc := 642) d7_642 (by decide) (i := 13) (by decide) (by simp) (u := .int 103) (by decide) (vs' := [.int 115, .int 116, .int 97, .int 114, .int 116, .int 58, .int 32, .int 109, .int 105, .int 115, .int 115, .int 105, .int 110, .int 103, .int 0, .int 0, .int 0, .int 0, .int 0, .int 0, .int 0, .int 0, .int 0, .int 0, .int 0, .int 0, .int 0, .int 0]) rfl Own.Upd.head ?_
    refine Own.W.dup (pc := 643) d7_643 rfl ?_
    refine Own.W.bipush (pc := 644) (z := (14 : Int32)) d7_644 (by decide) ?_
    refine Own.W.bipush (pc := 646) (z := (58 : Int32)) d7_646 (by decide) ?_
    refine Own.W.castore (pc := 648) d7_648 (by decide) (i := 14) (by decide) (by simp) (u := .int 58) (by decide) (vs' := [.int 115, .int 116, .int 97, .int 114, .int 116, .int 58, .int 32, .int 109, .int 105, .int 115, .int 115, .int 105, .int 110, .int 103, .int 58, .int 0, .int 0, .int 0, .int 0, .int 0, .int 0, .int 0, .int 0, .int 0, .int 0, .int 0, .int 0, .int 0]) rfl Own.Upd.head ?_
    refine Own.W.dup (pc := 649) d7_649 rfl ?_
    refine Own.W.bipush (pc := 650) (z := (15 : Int32)) d7_650 (by decide) ?_
    refine Own.W.bipush (pc := 652) (z := (32 : Int32)) d7_652 (by decide) ?_
    refine Own.W.castore (pc := 654) d7_654 (by decide) (i := 15) (by decide) (by simp) (u := .int 32) (by decide) (vs' := [.int 115, .int 116, .int 97, .int 114, .int 116, .int 58, .int 32, .int 109, .int 105, .int 115, .int 115, .int 105, .int 110, .int 103, .int 58, .int 32, .int 0, .int 0, .int 0, .int 0, .int 0, .int 0, .int 0, .int 0, .int 0, .int 0, .int 0, .int 0]) rfl Own.Upd.head ?_
    refine Own.W.dup (pc := 655) d7_655 rfl ?_
    refine Own.W.bipush (pc := 656) (z := (16 : Int32)) d7_656 (by decide) ?_
    refine Own.W.bipush (pc := 658) (z := (32 : Int32)) d7_658 (by decide) ?_
    refine Own.W.castore (pc := 660) d7_660 (by decide) (i := 16) (by decide) (by simp) (u := .int 32) (by decide) (vs' := [.int 115, .int 116, .int 97, .int 114, .int 116, .int 58, .int 32, .int 109, .int 105, .int 115, .int 115, .int 105, .int 110, .int 103, .int 58, .int 32, .int 32, .int 0, .int 0, .int 0, .int 0, .int 0, .int 0, .int 0, .int 0, .int 0, .int 0, .int 0]) rfl Own.Upd.head ?_
    refine Own.W.dup (pc := 661) d7_661 rfl ?_
    refine Own.W.bipush (pc := 662) (z := (17 : Int32)) d7_662 (by decide) ?_
    refine Own.W.bipush (pc := 664) (z := (100 : Int32)) d7_664 (by decide) ?_
    refine Own.W.castore (pc := 666) d7_666 (by decide) (i := 17) (by decide) (by simp) (u := .int 100) (by decide) (vs' := [.int 115, .int 116, .int 97, .int 114, .int 116, .int 58, .int 32, .int 109, .int 105, .int 115, .int 115, .int 105, .int 110, .int 103, .int 58, .int 32, .int 32, .int 100, .int 0, .int 0, .int 0, .int 0, .int 0, .int 0, .int 0, .int 0, .int 0, .int 0]) rfl Own.Upd.head ?_
    refine Own.W.dup (pc := 667) d7_667 rfl ?_
    refine Own.W.bipush (pc := 668) (z := (18 : Int32)) d7_668 (by decide) ?_
    refine Own.W.bipush (pc := 670) (z := (101 : Int32)) d7_670 (by decide) ?_
    refine Own.W.castore (pc := 672) d7_672 (by decide) (i := 18) (by decide) (by simp) (u := .int 101) (by decide) (vs' := [.int 115, .int 116, .int 97, .int 114, .int 116, .int 58, .int 32, .int 109, .int 105, .int 115, .int 115, .int 105, .int 110, .int 103, .int 58, .int 32, .int 32, .int 100, .int 101, .int 0, .int 0, .int 0, .int 0, .int 0, .int 0, .int 0, .int 0, .int 0]) rfl Own.Upd.head ?_
    refine Own.W.dup (pc := 673) d7_673 rfl ?_
    refine Own.W.bipush (pc := 674) (z := (19 : Int32)) d7_674 (by decide) ?_
    refine Own.W.bipush (pc := 676) (z := (112 : Int32)) d7_676 (by decide) ?_
    refine Own.W.castore (pc := 678) d7_678 (by decide) (i := 19) (by decide) (by simp) (u := .int 112) (by decide) (vs' := [.int 115, .int 116, .int 97, .int 114, .int 116, .int 58, .int 32, .int 109, .int 105, .int 115, .int 115, .int 105, .int 110, .int 103, .int 58, .int 32, .int 32, .int 100, .int 101, .int 112, .int 0, .int 0, .int 0, .int 0, .int 0, .int 0, .int 0, .int 0]) rfl Own.Upd.head ?_
    refine Own.W.dup (pc := 679) d7_679 rfl ?_
    refine Own.W.bipush (pc := 680) (z := (20 : Int32)) d7_680 (by decide) ?_
    refine Own.W.bipush (pc := 682) (z := (101 : Int32)) d7_682 (by decide) ?_
    refine Own.W.castore (pc := 684) d7_684 (by decide) (i := 20) (by decide) (by simp) (u := .int 101) (by decide) (vs' := [.int 115, .int 116, .int 97, .int 114, .int 116, .int 58, .int 32, .int 109, .int 105, .int 115, .int 115, .int 105, .int 110, .int 103, .int 58, .int 32, .int 32, .int 100, .int 101, .int 112, .int 101, .int 0, .int 0, .int 0, .int 0, .int 0, .int 0, .int 0]) rfl Own.Upd.head ?_
    refine Own.W.dup (pc := 685) d7_685 rfl ?_
    refine Own.W.bipush (pc := 686) (z := (21 : Int32)) d7_686 (by decide) ?_
    refine Own.W.bipush (pc := 688) (z := (110 : Int32)) d7_688 (by decide) ?_
    refine Own.W.castore (pc := 690) d7_690 (by decide) (i := 21) (by decide) (by simp) (u := .int 110) (by decide) (vs' := [.int 115, .int 116, .int 97, .int 114, .int 116, .int 58, .int 32, .int 109, .int 105, .int 115, .int 115, .int 105, .int 110, .int 103, .int 58, .int 32, .int 32, .int 100, .int 101, .int 112, .int 101, .int 110, .int 0, .int 0, .int 0, .int 0, .int 0, .int 0]) rfl Own.Upd.head ?_
    refine Own.W.dup (pc := 691) d7_691 rfl ?_
    refine Own.W.bipush (pc := 692) (z := (22 : Int32)) d7_692 (by decide) ?_
    refine Own.W.bipush (pc := 694) (z := (100 : Int32)) d7_694 (by decide) ?_
    refine Own.W.castore (pc := 696) d7_696 (by decide) (i := 22) (by decide) (by simp) (u := .int 100) (by decide) (vs' := [.int 115, .int 116, .int 97, .int 114, .int 116, .int 58, .int 32, .int 109, .int 105, .int 115, .int 115, .int 105, .int 110, .int 103, .int 58, .int 32, .int 32, .int 100, .int 101, .int 112, .int 101, .int 110, .int 100, .int 0, .int 0, .int 0, .int 0, .int 0]) rfl Own.Upd.head ?_
    refine Own.W.dup (pc := 697) d7_697 rfl ?_
    refine Own.W.bipush (pc := 698) (z := (23 : Int32)) d7_698 (by decide) ?_
    refine Own.W.bipush (pc := 700) (z := (115 : Int32)) d7_700 (by decide) ?_
    refine Own.W.castore (pc := 702) d7_702 (by decide) (i := 23) (by decide) (by simp) (u := .int 115) (by decide) (vs' := [.int 115, .int 116, .int 97, .int 114, .int 116, .int 58, .int 32, .int 109, .int 105, .int 115, .int 115, .int 105, .int 110, .int 103, .int 58, .int 32, .int 32, .int 100, .int 101, .int 112, .int 101, .int 110, .int 100, .int 115, .int 0, .int 0, .int 0, .int 0]) rfl Own.Upd.head ?_
    refine Own.W.dup (pc := 703) d7_703 rfl ?_
    refine Own.W.bipush (pc := 704) (z := (24 : Int32)) d7_704 (by decide) ?_
    refine Own.W.bipush (pc := 706) (z := (32 : Int32)) d7_706 (by decide) ?_
    refine Own.W.castore (pc := 708) d7_708 (by decide) (i := 24) (by decide) (by simp) (u := .int 32) (by decide) (vs' := [.int 115, .int 116, .int 97, .int 114, .int 116, .int 58, .int 32, .int 109, .int 105, .int 115, .int 115, .int 105, .int 110, .int 103, .int 58, .int 32, .int 32, .int 100, .int 101, .int 112, .int 101, .int 110, .int 100, .int 115, .int 32, .int 0, .int 0, .int 0]) rfl Own.Upd.head ?_
    refine Own.W.dup (pc := 709) d7_709 rfl ?_
    refine Own.W.bipush (pc := 710) (z := (25 : Int32)) d7_710 (by decide) ?_
    refine Own.W.bipush (pc := 712) (z := (111 : Int32)) d7_712 (by decide) ?_
    refine Own.W.castore (pc := 714) d7_714 (by decide) (i := 25) (by decide) (by simp) (u := .int 111) (by decide) (vs' := [.int 115, .int 116, .int 97, .int 114, .int 116, .int 58, .int 32, .int 109, .int 105, .int 115, .int 115, .int 105, .int 110, .int 103, .int 58, .int 32, .int 32, .int 100, .int 101, .int 112, .int 101, .int 110, .int 100, .int 115, .int 32, .int 111, .int 0, .int 0]) rfl Own.Upd.head ?_
    refine Own.W.dup (pc := 715) d7_715 rfl ?_
    refine Own.W.bipush (pc := 716) (z := (26 : Int32)) d7_716 (by decide) ?_
    refine Own.W.bipush (pc := 718) (z := (110 : Int32)) d7_718 (by decide) ?_
    refine Own.W.castore (pc := 720) d7_720 (by decide) (i := 26) (by decide) (by simp) (u := .int 110) (by decide) (vs' := [.int 115, .int 116, .int 97, .int 114, .int 116, .int 58, .int 32, .int 109, .int 105, .int 115, .int 115, .int 105, .int 110, .int 103, .int 58, .int 32, .int 32, .int 100, .int 101, .int 112, .int 101, .int 110, .int 100, .int 115, .int 32, .int 111, .int 110, .int 0]) rfl Own.Upd.head ?_
    refine Own.W.dup (pc := 721) d7_721 rfl ?_
    refine Own.W.bipush (pc := 722) (z := (27 : Int32)) d7_722 (by decide) ?_
    refine Own.W.bipush (pc := 724) (z := (32 : Int32)) d7_724 (by decide) ?_
    refine Own.W.castore (pc := 726) d7_726 (by decide) (i := 27) (by decide) (by simp) (u := .int 32) (by decide) (vs' := [.int 115, .int 116, .int 97, .int 114, .int 116, .int 58, .int 32, .int 109, .int 105, .int 115, .int 115, .int 105, .int 110, .int 103, .int 58, .int 32, .int 32, .int 100, .int 101, .int 112, .int 101, .int 110, .int 100, .int 115, .int 32, .int 111, .int 110, .int 32]) rfl Own.Upd.head ?_
    refine Own.W.aret (pc := 727) d7_727 rfl rfl rfl ?_ (Nat.le_of_ble_eq_true rfl) (Nat.le_of_ble_eq_true rfl)
    exact ⟨_, rfl, rfl, rfl⟩
def Q1 : Own.Qx := fun v _ _ => v = some (.int 1)
theorem own_exp_len (f g a b d e : Int32) : 28 ≤ (own_exp f g a b d e).length ∧ (own_exp f g a b d e).length ≤ 32 := by
  unfold own_exp own_s; split <;> split <;> simp
theorem own_exp_b {f g a b d e : Int32} (ha : a &&& 255 = a) (hb : b &&& 255 = b) (hd : d &&& 255 = d) (he : e &&& 255 = e) : ∀ z ∈ own_exp f g a b d e, z &&& 255 = z := by
  have hs : ∀ f a b : Int32, a &&& 255 = a → b &&& 255 = b → ∀ z ∈ own_s f a b, z &&& 255 = z := fun f a b ha hb z hz => by
    unfold own_s at hz; split at hz
    · rcases List.mem_cons.mp hz with rfl | hz
      · exact ha
      · cases List.mem_singleton.mp hz; exact hb
    · cases hz
  have k1 : ∀ z ∈ ([115, 116, 97, 114, 116, 58, 32, 109, 105, 115, 115, 105, 110, 103, 58, 32] : List Int32), z &&& 255 = z := by decide
  have k2 : ∀ z ∈ ([32, 100, 101, 112, 101, 110, 100, 115, 32, 111, 110, 32] : List Int32), z &&& 255 = z := by decide
  intro z hz
  unfold own_exp at hz
  rcases List.mem_append.mp hz with hz | hz
  · exact k1 z hz
  rcases List.mem_append.mp hz with hz | hz
  · exact hs _ _ _ ha hb z hz
  rcases List.mem_append.mp hz with hz | hz
  · exact k2 z hz
  · exact hs _ _ _ hd he z hz
theorem own_agree (f g a b d e : Int32) : own_by (own_exp f g a b d e) = ([] ++ (Own.txb "start: ")) ++ ((((([] ++ (Own.txb "missing: ")) ++ (own_by (own_s f a b))) ++ (Own.txb " depends on ")) ++ (own_by (own_s g d e)))) := by
  have h1 : own_by [115, 116, 97, 114, 116, 58, 32, 109, 105, 115, 115, 105, 110, 103, 58, 32] = (Own.txb "start: ") ++ (Own.txb "missing: ") := by decide +kernel
  have h2 : own_by [32, 100, 101, 112, 101, 110, 100, 115, 32, 111, 110, 32] = (Own.txb " depends on ") := by decide +kernel
  unfold own_exp own_by at *
  rw [List.map_append, List.map_append, List.map_append, h1, h2]
  simp only [List.nil_append, List.append_assoc]
theorem pd_84933738 : parseMethodDescriptor "([C)V" = some ⟨[(.array .char)], none⟩ := by decide +kernel
theorem pd_99200532 : parseMethodDescriptor "(ZZCCCC)[C" = some ⟨[.boolean, .boolean, .char, .char, .char, .char], some (.array .char)⟩ := by decide +kernel
theorem pd_48918188 : parseMethodDescriptor "(Ljava/lang/String;Ljava/lang/String;)V" = some ⟨[(.object "java/lang/String"), (.object "java/lang/String")], none⟩ := by decide +kernel
theorem pd_96412080 : parseMethodDescriptor "(Ljava/lang/Object;)Z" = some ⟨[(.object "java/lang/Object")], some .boolean⟩ := by decide +kernel
theorem pn_77398919 : plainFor x = true := by first | exact plainFor_of_name (by first | (simp [plainName, overriddenIn]; done) | decide +kernel) | decide +kernel
set_option maxRecDepth 65536 in
set_option maxHeartbeats 4000000 in
theorem ct_law (G : Own.Gx) (hw : ∀ d ∈ tables_1, d.before G.a0 G.Z = true) (ws : List Jvm.Cond) (hC : Own.CSt G) (hnw : G.nw = false) (wS : ∀ a ∈ Bundle.stringAtoms, a.before G.a0 G.Z = true) (hcw : Jvm.Lit.compactW.before G.a0 G.Z = true) (hhl7 : Jvm.Lit.constHeld G.Z "com/example/precedence/precedence/MissingLinePinLaw" 7) (hhm7 : Jvm.Lit.constHeld G.Z "com/example/precedence/precedence/Problem$Missing" 7) (hhm15 : Jvm.Lit.constHeld G.Z "com/example/precedence/precedence/Problem$Missing" 15) (hhx25 : Jvm.Lit.constHeld G.Z "com/example/precedence/precedence/MissingDependencyException" 25) (hhx31 : Jvm.Lit.constHeld G.Z "com/example/precedence/precedence/MissingDependencyException" 31) (hhm33 : Jvm.Lit.constHeld G.Z "com/example/precedence/precedence/Problem$Missing" 33) (p0 p1 p2 : Int32) :
    Own.Ct G ws x code maxLocals ret room_1 [.int p0, .int p1, .int p2] [] [] (Q1) := by
  refine Own.Ct.intro pn_77398919 (Ls := [.val (.int p0), .val (.int p1), .val (.int p2), .unset, .unset, .unset, .unset, .unset, .unset, .unset, .unset, .unset, .unset, .unset, .unset, .unset]) (Own.args_ls rfl) rfl ?_
  intro K
  refine Own.W.iloadN (pc := 0) at_0 rfl ?_
  refine Own.W.sipush (pc := 1) (z := (255 : Int32)) at_1 (by decide) ?_
  refine Own.W.iand (pc := 4) at_4 rfl ?_
  refine Own.W.i2c (pc := 5) at_5 (i2c_mask _) ?_
  refine Own.W.istoreN (pc := 6) (Ls' := [_, _, _, _, _, _, _, _, _, _, _, _, _, _, _, _]) at_6 rfl rfl ?_
  refine Own.W.iloadN (pc := 7) at_7 rfl ?_
  refine Own.W.bipush (pc := 8) (z := (8 : Int32)) at_8 (by decide) ?_
  refine Own.W.iushr (pc := 10) at_10 rfl ?_
  refine Own.W.sipush (pc := 11) (z := (255 : Int32)) at_11 (by decide) ?_
  refine Own.W.iand (pc := 14) at_14 rfl ?_
  refine Own.W.i2c (pc := 15) at_15 (i2c_mask _) ?_
  refine Own.W.istore (pc := 16) (Ls' := [_, _, _, _, _, _, _, _, _, _, _, _, _, _, _, _]) at_16 rfl rfl ?_
  refine Own.W.iloadN (pc := 18) at_18 rfl ?_
  refine Own.W.sipush (pc := 19) (z := (255 : Int32)) at_19 (by decide) ?_
  refine Own.W.iand (pc := 22) at_22 rfl ?_
  refine Own.W.i2c (pc := 23) at_23 (i2c_mask _) ?_
  refine Own.W.istore (pc := 24) (Ls' := [_, _, _, _, _, _, _, _, _, _, _, _, _, _, _, _]) at_24 rfl rfl ?_
  refine Own.W.iloadN (pc := 26) at_26 rfl ?_
  refine Own.W.bipush (pc := 27) (z := (8 : Int32)) at_27 (by decide) ?_
  refine Own.W.iushr (pc := 29) at_29 rfl ?_
  refine Own.W.sipush (pc := 30) (z := (255 : Int32)) at_30 (by decide) ?_
  refine Own.W.iand (pc := 33) at_33 rfl ?_
  refine Own.W.i2c (pc := 34) at_34 (i2c_mask _) ?_
  refine Own.W.istore (pc := 35) (Ls' := [_, _, _, _, _, _, _, _, _, _, _, _, _, _, _, _]) at_35 rfl rfl ?_
  suffices J37 : ∀ a b d e : Int32, a &&& 255 = a → b &&& 255 = b → d &&& 255 = d → e &&& 255 = e → Own.W G K x code ret room_1 Q1 [] [] 0 0 37 [.val (.int p0), .val (.int p1), .val (.int p2), .val (.int a), .val (.int b), .val (.int d), .val (.int e), .unset, .unset, .unset, .unset, .unset, .unset, .unset, .unset, .unset] [] from
    J37 _ _ _ _ (own_id _) (own_id _) (own_id _) (own_id _)
  intro a b d e ha hb hd he
  refine Own.W.iloadN (pc := 37) at_37 rfl ?_
  refine Own.W.iconst (pc := 38) (z := (1 : Int32)) at_38 (by decide) ?_
  refine Own.W.iand (pc := 39) at_39 rfl ?_
  suffices J48 : ∀ f : Int32, f = 0 ∨ f = 1 → Own.W G K x code ret room_1 Q1 [] [] 0 0 48 [.val (.int p0), .val (.int p1), .val (.int p2), .val (.int a), .val (.int b), .val (.int d), .val (.int e), .unset, .unset, .unset, .unset, .unset, .unset, .unset, .unset, .unset] [.int f] by
    refine Own.W.if_eq (pc := 40) 47 at_40 (by decide) (by decide) ?_ ?_
    · intro h40
      refine Own.W.iconst (pc := 47) (z := (0 : Int32)) at_47 (by decide) ?_
      exact J48 _ (by decide)
    · intro h40
      refine Own.W.iconst (pc := 43) (z := (1 : Int32)) at_43 (by decide) ?_
      refine Own.W.goto (pc := 44) 48 at_44 (by decide) (by decide) ?_
      exact J48 _ (by decide)
  intro f hf
  refine Own.W.istore (pc := 48) (Ls' := [_, _, _, _, _, _, _, _, _, _, _, _, _, _, _, _]) at_48 rfl rfl ?_
  refine Own.W.iloadN (pc := 50) at_50 rfl ?_
  refine Own.W.iconst (pc := 51) (z := (2 : Int32)) at_51 (by decide) ?_
  refine Own.W.iand (pc := 52) at_52 rfl ?_
  suffices J61 : ∀ g : Int32, g = 0 ∨ g = 1 → Own.W G K x code ret room_1 Q1 [] [] 0 0 61 [.val (.int p0), .val (.int p1), .val (.int p2), .val (.int a), .val (.int b), .val (.int d), .val (.int e), .val (.int f), .unset, .unset, .unset, .unset, .unset, .unset, .unset, .unset] [.int g] by
    refine Own.W.if_eq (pc := 53) 60 at_53 (by decide) (by decide) ?_ ?_
    · intro h53
      refine Own.W.iconst (pc := 60) (z := (0 : Int32)) at_60 (by decide) ?_
      exact J61 _ (by decide)
    · intro h53
      refine Own.W.iconst (pc := 56) (z := (1 : Int32)) at_56 (by decide) ?_
      refine Own.W.goto (pc := 57) 61 at_57 (by decide) (by decide) ?_
      exact J61 _ (by decide)
  intro g hg
  refine Own.W.istore (pc := 61) (Ls' := [_, _, _, _, _, _, _, _, _, _, _, _, _, _, _, _]) at_61 rfl rfl ?_
  refine Own.W.iconst (pc := 63) (z := (2 : Int32)) at_63 (by decide) ?_
  refine Own.W.newP (pc := 64) 2 (hw _ (List.mem_of_getElem? (i := 0) rfl)) at_64 rfl (by decide) (Nat.le_of_ble_eq_true rfl) (by decide) (vs := [.int 0, .int 0]) rfl (Nat.le_of_ble_eq_true rfl) (Nat.le_of_ble_eq_true rfl) ?_
  intro o64
  refine Own.W.dup (pc := 66) at_66 rfl ?_
  refine Own.W.iconst (pc := 67) (z := (0 : Int32)) at_67 (by decide) ?_
  refine Own.W.iloadN (pc := 68) at_68 rfl ?_
  refine Own.W.castore (pc := 69) at_69 (by decide) (i := 0) (by decide) (by simp) (u := .int a) (congrArg Value.int (own_nar ha)) (vs' := [.int a, .int 0]) rfl Own.Upd.head ?_
  refine Own.W.dup (pc := 70) at_70 rfl ?_
  refine Own.W.iconst (pc := 71) (z := (1 : Int32)) at_71 (by decide) ?_
  refine Own.W.iload (pc := 72) at_72 rfl ?_
  refine Own.W.castore (pc := 74) at_74 (by decide) (i := 1) (by decide) (by simp) (u := .int b) (congrArg Value.int (own_nar hb)) (vs' := [.int a, .int b]) rfl Own.Upd.head ?_
  refine Own.W.astore (pc := 75) (Ls' := [_, _, _, _, _, _, _, _, _, _, _, _, _, _, _, _]) at_75 rfl rfl rfl ?_
  refine Own.W.iconst (pc := 77) (z := (2 : Int32)) at_77 (by decide) ?_
  refine Own.W.newP (pc := 78) 2 (hw _ (List.mem_of_getElem? (i := 0) rfl)) at_78 rfl (by decide) (Nat.le_of_ble_eq_true rfl) (by decide) (vs := [.int 0, .int 0]) rfl (Nat.le_of_ble_eq_true rfl) (Nat.le_of_ble_eq_true rfl) ?_
  intro o78
  refine Own.W.dup (pc := 80) at_80 rfl ?_
  refine Own.W.iconst (pc := 81) (z := (0 : Int32)) at_81 (by decide) ?_
  refine Own.W.iload (pc := 82) at_82 rfl ?_
  refine Own.W.castore (pc := 84) at_84 (by decide) (i := 0) (by decide) (by simp) (u := .int d) (congrArg Value.int (own_nar hd)) (vs' := [.int d, .int 0]) rfl Own.Upd.head ?_
  refine Own.W.dup (pc := 85) at_85 rfl ?_
  refine Own.W.iconst (pc := 86) (z := (1 : Int32)) at_86 (by decide) ?_
  refine Own.W.iload (pc := 87) at_87 rfl ?_
  refine Own.W.castore (pc := 89) at_89 (by decide) (i := 1) (by decide) (by simp) (u := .int e) (congrArg Value.int (own_nar he)) (vs' := [.int d, .int e]) rfl Own.Upd.head ?_
  refine Own.W.astore (pc := 90) (Ls' := [_, _, _, _, _, _, _, _, _, _, _, _, _, _, _, _]) at_90 rfl rfl rfl ?_
  refine Own.W.iload (pc := 92) at_92 rfl ?_
  suffices J111 : ∀ (A : List Own.Ent) (L : List Own.LitE) (m : Addr), Own.StrF A m ((own_by (own_s f a b)).map Value.int) → (o78, true, Own.arr .char ([d, e].map Value.int)) ∈ A → Own.LitOk A L "com/example/precedence/precedence/MissingLinePinLaw" 7 "" [] → Own.LX [""] [] L → Own.W G K x code ret room_1 Q1 A L 4 16 111 [.val (.int p0), .val (.int p1), .val (.int p2), .val (.int a), .val (.int b), .val (.int d), .val (.int e), .val (.int f), .val (.int g), .val (.ref o64), .val (.ref o78), .unset, .unset, .unset, .unset, .unset] [.ref m] by
    have hl : Own.LitOk [(o78, true, Own.arr .char ([d, e].map Value.int)), (o64, true, Own.arr .char ([a, b].map Value.int))] [] "com/example/precedence/precedence/MissingLinePinLaw" 7 "" [] := Or.inl (by simp)
    refine Own.W.if_eq (pc := 94) 102 at_94 (by decide) (by decide) ?_ ?_
    · intro h94
      refine Own.W.new (pc := 102) (hw _ (List.mem_of_getElem? (i := 1) rfl)) (hw _ (List.mem_of_getElem? (i := 2) rfl)) (hw _ (List.mem_of_getElem? (i := 3) rfl)) at_102 (LF_java_lang_String G hw) (vs := [.int 0, .null]) (by decide) (Nat.le_of_ble_eq_true rfl) (Nat.le_of_ble_eq_true rfl) ?_
      intro o102
      refine Own.W.dup (pc := 105) at_105 rfl ?_
      refine Own.W.aload (pc := 106) at_106 rfl rfl ?_
      refine Own.W.callI (pc := 108) (ct_str1 G hw hC o102 o64 [a, b] 2 (by simp) (by simp) (by decide) (fun z hz => by rcases List.mem_cons.mp hz with rfl | hz; exact own_ch ha; cases List.mem_singleton.mp hz; exact own_ch hb) (Own.AVin.mem (by repeat (first | exact List.Mem.head _ | assumption | exact List.mem_append_right _ (List.Mem.head _) | apply List.Mem.tail)))) at_108 rfl (hw _ (List.mem_of_getElem? (i := 4) rfl)) (hw _ (List.mem_of_getElem? (i := 5) rfl)) (hw _ (List.mem_of_getElem? (i := 3) rfl)) (hw _ (List.mem_of_getElem? (i := 6) rfl)) (by decide) pd_84933738 rfl rfl (Nat.le_of_ble_eq_true rfl) (Nat.le_of_ble_eq_true rfl) (Nat.le_of_ble_eq_true rfl) (by first | exact Nat.le_of_ble_eq_true rfl | (simp; done) | (simp; omega)) ?_
      rintro _ _ _ ⟨t94, rfl, rfl, rfl⟩
      refine Own.W.frz Own.Frz.head ?_
      refine Own.W.frz (Own.Frz.tail Own.Frz.head) ?_
      rw [own_by_map]
      have es : own_s f a b = [a, b] := if_pos h94
      refine Own.W.mono (J111 _ _ _ (by rw [es]; exact ⟨t94, _, _, List.Mem.tail _ (List.Mem.head _), (by repeat (first | exact Own.FAt.head | apply Own.FAt.tail)), (by repeat (first | exact Own.FAt.head | apply Own.FAt.tail)), List.Mem.head _⟩) (by repeat (first | exact List.Mem.head _ | assumption | exact List.mem_append_right _ (List.Mem.head _) | apply List.Mem.tail)) (hl.sub (Own.Sub.cons (Own.Sub.cons (Own.Sub.refl _)))) (Own.LX.refl _ _)) (Nat.le_of_ble_eq_true rfl) (Nat.le_of_ble_eq_true rfl)
    · intro h94
      refine Own.W.ldcL (pc := 97) (n := 0) (vs := []) hl hnw at_97 (hw _ (List.mem_of_getElem? (i := 30) rfl)) wS hhl7 hcw ⟨by simp, by simp⟩ (by simp) (by decide) (Nat.le_of_ble_eq_true rfl) (Nat.le_of_ble_eq_true rfl) ?_
      rintro m mb A1 L1 hm hmb hml hor
      have es : own_s f a b = [] := if_neg h94
      refine Own.W.goto (pc := 99) 111 at_99 (by decide) (by decide) ?_
      rcases hor with ⟨rfl, rfl⟩ | ⟨rfl, rfl⟩
      · exact Own.W.mono (J111 _ _ _ (by rw [es]; exact Own.StrF.lit hm hmb) (List.Mem.head _) (Or.inr ⟨m, mb, hml, hm, hmb⟩) (Own.LX.refl _ _)) (Nat.le_of_ble_eq_true rfl) (Nat.le_of_ble_eq_true rfl)
      · exact Own.W.mono (J111 _ _ _ (by rw [es]; exact Own.StrF.lit hm hmb) (by repeat (first | exact List.Mem.head _ | assumption | exact List.mem_append_right _ (List.Mem.head _) | apply List.Mem.tail)) (Or.inr ⟨m, mb, hml, hm, hmb⟩) (Own.LX.one (by simp))) (Nat.le_of_ble_eq_true rfl) (Nat.le_of_ble_eq_true rfl)
  intro A L m sm hdc hl hlx
  refine Own.W.astore (pc := 111) (Ls' := [_, _, _, _, _, _, _, _, _, _, _, _, _, _, _, _]) at_111 rfl rfl rfl ?_
  refine Own.W.iload (pc := 113) at_113 rfl ?_
  suffices J132 : ∀ (A : List Own.Ent) (L : List Own.LitE) (n : Addr), Own.StrF A m ((own_by (own_s f a b)).map Value.int) → Own.StrF A n ((own_by (own_s g d e)).map Value.int) → Own.LX [""] [] L → Own.W G K x code ret room_1 Q1 A L 6 28 132 [.val (.int p0), .val (.int p1), .val (.int p2), .val (.int a), .val (.int b), .val (.int d), .val (.int e), .val (.int f), .val (.int g), .val (.ref o64), .val (.ref o78), .val (.ref m), .unset, .unset, .unset, .unset] [.ref n] by
    refine Own.W.if_eq (pc := 115) 123 at_115 (by decide) (by decide) ?_ ?_
    · intro h115
      refine Own.W.new (pc := 123) (hw _ (List.mem_of_getElem? (i := 1) rfl)) (hw _ (List.mem_of_getElem? (i := 2) rfl)) (hw _ (List.mem_of_getElem? (i := 3) rfl)) at_123 (LF_java_lang_String G hw) (vs := [.int 0, .null]) (by decide) (Nat.le_of_ble_eq_true rfl) (Nat.le_of_ble_eq_true rfl) ?_
      intro o123
      refine Own.W.dup (pc := 126) at_126 rfl ?_
      refine Own.W.aload (pc := 127) at_127 rfl rfl ?_
      refine Own.W.callI (pc := 129) (ct_str1 G hw hC o123 o78 [d, e] 2 (by simp) (by simp) (by decide) (fun z hz => by rcases List.mem_cons.mp hz with rfl | hz; exact own_ch hd; cases List.mem_singleton.mp hz; exact own_ch he) (Own.AVin.mem (by repeat (first | exact List.Mem.head _ | assumption | exact List.mem_append_right _ (List.Mem.head _) | apply List.Mem.tail)))) at_129 rfl (hw _ (List.mem_of_getElem? (i := 4) rfl)) (hw _ (List.mem_of_getElem? (i := 5) rfl)) (hw _ (List.mem_of_getElem? (i := 3) rfl)) (hw _ (List.mem_of_getElem? (i := 6) rfl)) (by decide) pd_84933738 rfl rfl (Nat.le_of_ble_eq_true rfl) (Nat.le_of_ble_eq_true rfl) (Nat.le_of_ble_eq_true rfl) (by first | exact Nat.le_of_ble_eq_true rfl | (simp; done) | (simp; omega)) ?_
      rintro _ _ _ ⟨t115, rfl, rfl, rfl⟩
      refine Own.W.frz Own.Frz.head ?_
      refine Own.W.frz (Own.Frz.tail Own.Frz.head) ?_
      rw [own_by_map]
      have es : own_s g d e = [d, e] := if_pos h115
      refine Own.W.mono (J132 _ _ _ (sm.sub (Own.Sub.cons (Own.Sub.cons (Own.Sub.refl _)))) (by rw [es]; exact ⟨t115, _, _, List.Mem.tail _ (List.Mem.head _), (by repeat (first | exact Own.FAt.head | apply Own.FAt.tail)), (by repeat (first | exact Own.FAt.head | apply Own.FAt.tail)), List.Mem.head _⟩) hlx) (Nat.le_of_ble_eq_true rfl) (Nat.le_of_ble_eq_true rfl)
    · intro h115
      refine Own.W.ldcL (pc := 118) (n := 0) (vs := []) hl hnw at_118 (hw _ (List.mem_of_getElem? (i := 30) rfl)) wS hhl7 hcw ⟨by simp, by simp⟩ (by simp) (by decide) (Nat.le_of_ble_eq_true rfl) (Nat.le_of_ble_eq_true rfl) ?_
      rintro m mb A1 L1 hm hmb hml hor
      have es : own_s g d e = [] := if_neg h115
      refine Own.W.goto (pc := 120) 132 at_120 (by decide) (by decide) ?_
      rcases hor with ⟨rfl, rfl⟩ | ⟨rfl, rfl⟩
      · exact Own.W.mono (J132 _ _ _ sm (by rw [es]; exact Own.StrF.lit hm hmb) hlx) (Nat.le_of_ble_eq_true rfl) (Nat.le_of_ble_eq_true rfl)
      · exact Own.W.mono (J132 _ _ _ (sm.sub (Own.Sub.cons (Own.Sub.cons (Own.Sub.refl _)))) (by rw [es]; exact Own.StrF.lit hm hmb) (hlx.trans (Own.LX.one (by simp)))) (Nat.le_of_ble_eq_true rfl) (Nat.le_of_ble_eq_true rfl)
  intro A L n sm sn hlx
  refine Own.W.astore (pc := 132) (Ls' := [_, _, _, _, _, _, _, _, _, _, _, _, _, _, _, _]) at_132 rfl rfl rfl ?_
  refine Own.W.iload (pc := 134) at_134 rfl ?_
  refine Own.W.iload (pc := 136) at_136 rfl ?_
  refine Own.W.iloadN (pc := 138) at_138 rfl ?_
  refine Own.W.iload (pc := 139) at_139 rfl ?_
  refine Own.W.iload (pc := 141) at_141 rfl ?_
  refine Own.W.iload (pc := 143) at_143 rfl ?_
  refine Own.W.callS (pc := 145) (ct_exp G hw f g a b d e hf hg ha hb hd he) at_145 (hw _ (List.mem_of_getElem? (i := 33) rfl)) (hw _ (List.mem_of_getElem? (i := 34) rfl)) (hw _ (List.mem_of_getElem? (i := 35) rfl)) (hw _ (List.mem_of_getElem? (i := 36) rfl)) (by decide) pd_99200532 rfl rfl (Nat.le_of_ble_eq_true rfl) (Nat.le_of_ble_eq_true rfl) (Nat.le_of_ble_eq_true rfl) (Nat.le_of_ble_eq_true rfl) ?_
  rintro _ _ _ ⟨oe, rfl, rfl, rfl⟩
  refine Own.W.frz Own.Frz.head ?_
  refine Own.W.astore (pc := 148) (Ls' := [_, _, _, _, _, _, _, _, _, _, _, _, _, _, _, _]) at_148 rfl rfl rfl ?_
  refine Own.W.new (pc := 150) (hw _ (List.mem_of_getElem? (i := 37) rfl)) (hw _ (List.mem_of_getElem? (i := 38) rfl)) (hw _ (List.mem_of_getElem? (i := 39) rfl)) at_150 (LF_com_example_precedence_precedence_Problem_Missing G hw) (vs := [.null, .null]) (by decide) (Nat.le_of_ble_eq_true rfl) (Nat.le_of_ble_eq_true rfl) ?_
  intro o150
  refine Own.W.dup (pc := 153) at_153 rfl ?_
  refine Own.W.aload (pc := 154) at_154 rfl rfl ?_
  refine Own.W.aload (pc := 156) at_156 rfl rfl ?_
  refine Own.W.callI (pc := 158) (ct_minit G hw hnw wS hcw hhm7 hhm15 o150 m n (hlx.not (by simp) (by simp)) (hlx.not (by simp) (by simp))) at_158 rfl (hw _ (List.mem_of_getElem? (i := 40) rfl)) (hw _ (List.mem_of_getElem? (i := 41) rfl)) (hw _ (List.mem_of_getElem? (i := 39) rfl)) (hw _ (List.mem_of_getElem? (i := 42) rfl)) (by decide) pd_48918188 rfl rfl (Nat.le_of_ble_eq_true rfl) (Nat.le_of_ble_eq_true rfl) (Nat.le_of_ble_eq_true rfl) (Nat.le_of_ble_eq_true rfl) ?_
  rintro _ _ L2 ⟨A2, rfl, rfl, hs2, hlx2⟩
  replace sm := sm.sub (Own.Sub.trans (Own.Sub.cons (Own.Sub.refl _)) hs2)
  replace sn := sn.sub (Own.Sub.trans (Own.Sub.cons (Own.Sub.refl _)) hs2)
  have he2 := hs2 _ (List.Mem.head _)
  refine Own.W.astore (pc := 161) (Ls' := [_, _, _, _, _, _, _, _, _, _, _, _, _, _, _, _]) at_161 rfl rfl rfl ?_
  refine Own.W.aload (pc := 163) at_163 rfl rfl ?_
  refine Own.W.callV (pc := 165) (ct_line G hw hC hnw wS hcw hhx25 hhx31 hhm33 o150 m n (own_by (own_s f a b)) (own_by (own_s g d e)) (by unfold own_by own_s; split <;> simp) (by unfold own_by own_s; split <;> simp) (sm.sub (Own.Sub.cons (Own.Sub.refl _))) (sn.sub (Own.Sub.cons (Own.Sub.refl _))) (List.Mem.head _) (hlx2.not (hlx.not (by simp) (by simp)) (by simp)) (hlx2.not (hlx.not (by simp) (by simp)) (by simp)) (hlx2.not (hlx.not (by simp) (by simp)) (by simp))) at_165 (C := "com/example/precedence/precedence/Problem$Missing") (Own.Is.mem (List.Mem.head _)) (hw _ (List.mem_of_getElem? (i := 59) rfl)) (hw _ (List.mem_of_getElem? (i := 60) rfl)) (Own.nf_sel (hw _ (List.mem_of_getElem? (i := 62) rfl))) (hw _ (List.mem_of_getElem? (i := 62) rfl)) (hw _ (List.mem_of_getElem? (i := 61) rfl)) (hw _ (List.mem_of_getElem? (i := 39) rfl)) (hw _ (List.mem_of_getElem? (i := 63) rfl)) (by decide) pd_47462102 rfl rfl (Nat.le_of_ble_eq_true rfl) (Nat.le_of_ble_eq_true rfl) (Nat.le_of_ble_eq_true rfl) (Nat.le_of_ble_eq_true rfl) ?_
  rintro _ A3 L3 ⟨r, rfl, sr, hst⟩
  have he3 := hst _ (List.Mem.tail _ he2) rfl
  have hel := own_exp_len f g a b d e
  refine Own.W.astore (pc := 168) (Ls' := [_, _, _, _, _, _, _, _, _, _, _, _, _, _, _, _]) at_168 rfl rfl rfl ?_
  refine Own.W.new (pc := 170) (hw _ (List.mem_of_getElem? (i := 1) rfl)) (hw _ (List.mem_of_getElem? (i := 2) rfl)) (hw _ (List.mem_of_getElem? (i := 3) rfl)) at_170 (LF_java_lang_String G hw) (vs := [.int 0, .null]) (by decide) (Nat.le_of_ble_eq_true rfl) (Nat.le_of_ble_eq_true rfl) ?_
  intro o170
  refine Own.W.dup (pc := 173) at_173 rfl ?_
  refine Own.W.aload (pc := 174) at_174 rfl rfl ?_
  refine Own.W.callI (pc := 176) (ct_str1 G hw hC o170 oe (own_exp f g a b d e) 32 (by omega) (by omega) (by decide) (fun z hz => own_ch (own_exp_b ha hb hd he z hz)) (Own.AVin.mem he3)) at_176 rfl (hw _ (List.mem_of_getElem? (i := 4) rfl)) (hw _ (List.mem_of_getElem? (i := 5) rfl)) (hw _ (List.mem_of_getElem? (i := 3) rfl)) (hw _ (List.mem_of_getElem? (i := 6) rfl)) (by decide) pd_84933738 rfl rfl (Nat.le_of_ble_eq_true rfl) (Nat.le_of_ble_eq_true rfl) (Nat.le_of_ble_eq_true rfl) (by first | exact Nat.le_of_ble_eq_true rfl | (simp; done) | (simp; omega)) ?_
  rintro _ _ _ ⟨t, rfl, rfl, rfl⟩
  rw [own_by_map, own_agree]
  obtain ⟨E, hE⟩ : ∃ E, E = ([] ++ (Own.txb "start: ")) ++ ((((([] ++ (Own.txb "missing: ")) ++ (own_by (own_s f a b))) ++ (Own.txb " depends on ")) ++ (own_by (own_s g d e)))) := ⟨_, rfl⟩
  have hEl : E.length < 2147483648 := by rw [hE, ← own_agree]; simp only [own_by, List.length_map]; omega
  rw [← hE] at sr ⊢
  refine Own.W.aload (pc := 179) at_179 rfl rfl ?_
  refine Own.W.callV (pc := 181) (ct_seq G hw hC o170 r E E hEl hEl ⟨t, Own.Is.mem (by repeat (first | exact List.Mem.head _ | assumption | exact List.mem_append_right _ (List.Mem.head _) | apply List.Mem.tail)), Own.FIn.mem (by repeat (first | exact List.Mem.head _ | assumption | exact List.mem_append_right _ (List.Mem.head _) | apply List.Mem.tail)) (by repeat (first | exact Own.FAt.head | apply Own.FAt.tail)), Own.FIn.mem (by repeat (first | exact List.Mem.head _ | assumption | exact List.mem_append_right _ (List.Mem.head _) | apply List.Mem.tail)) (by repeat (first | exact Own.FAt.head | apply Own.FAt.tail)), Own.AVin.mem (List.Mem.head _)⟩ (sr.sub (Own.Sub.cons (Own.Sub.cons (Own.Sub.refl _)))).str) at_181 (C := "java/lang/String") (Own.Is.mem (by repeat (first | exact List.Mem.head _ | assumption | exact List.mem_append_right _ (List.Mem.head _) | apply List.Mem.tail))) (hw _ (List.mem_of_getElem? (i := 202) rfl)) (hw _ (List.mem_of_getElem? (i := 203) rfl)) (Own.nf_sel (hw _ (List.mem_of_getElem? (i := 205) rfl))) (hw _ (List.mem_of_getElem? (i := 205) rfl)) (hw _ (List.mem_of_getElem? (i := 204) rfl)) (hw _ (List.mem_of_getElem? (i := 3) rfl)) (hw _ (List.mem_of_getElem? (i := 206) rfl)) (by decide) pd_96412080 rfl rfl (Nat.le_of_ble_eq_true rfl) (Nat.le_of_ble_eq_true rfl) (Nat.le_of_ble_eq_true rfl) (Nat.le_of_ble_eq_true rfl) ?_
  rintro _ _ _ ⟨rfl, rfl, rfl⟩
  rw [Own.eqI_self]
  refine Own.W.iret (pc := 184) at_184 rfl (by simp) (by first | rfl | decide) ?_ (Nat.le_of_ble_eq_true rfl) (Nat.le_of_ble_eq_true rfl)
  exact rfl
set_option maxRecDepth 65536 in
set_option maxHeartbeats 4000000 in
theorem comes_1 {Post : Tables → Env → Array Value → State → Outcome → State → Prop} (hpost : ∀ tb e args s v u, (limb_1_1.after args s (.returned v) u = true ∧ limb_1_2.after args s (.returned v) u = true) → Jvm.D.FramedW s (.returned v) u (Jvm.fieldLocs frame_1_writes args s ++ Jvm.arrayLocs frame_1_arrays args s ++ Jvm.staticLocs frame_1_statics s) 64 6784 → Post tb e args s (.returned v) u) :
    ArmFor flags0 classFile x code maxLocals ret World_1 tables_1 room_1 Calls_1 rest_1 Pre_1 Post := by
  intro l hfl _ _ p e ha hc hk s m args below hf hA hF happ hP
  obtain ⟨hcalls, hrest, hpre⟩ := hP
  obtain ⟨-, -, -, hnamed, -, -, -, hat⟩ := (Spec.applies_iff hf).mp happ
  obtain ⟨hg, hn⟩ := and_e (Cond.before_iff.mp (show (Jvm.Cond.and given_1 narrow_1).before args s = true from hpre))
  obtain ⟨hcnt, hgr⟩ := and_e hg
  obtain ⟨ha0, hgr⟩ := and_e hgr
  obtain ⟨ha1, hgr⟩ := and_e hgr
  have ha2 := hgr
  obtain ⟨w0, w1, w2, rfl⟩ : ∃ w0 w1 w2 : Value, args = #[w0, w1, w2] := by
    have hs : args.size = 3 := by simpa [Cond.value, given_1] using hcnt
    obtain ⟨L⟩ := args
    match L, hs with
    | [w0, w1, w2], _ => exact ⟨w0, w1, w2, rfl⟩
  have hw := fun d (hd : d ∈ tables_1) => atoms_spec (ws := Jvm.Cond.code x code maxLocals ret :: tables_1) hat d (List.mem_cons_of_mem _ hd)
  obtain ⟨hsets, hown0⟩ := atoms_of _ (rest_1_c_eq ▸ (show rest_1_c.before _ s = true from hrest))
  obtain ⟨i0, ei0⟩ := is_v ha0
  obtain rfl : w0 = (.int i0) := Option.some.inj ei0
  obtain ⟨i1, ei1⟩ := is_v ha1
  obtain rfl : w1 = (.int i1) := Option.some.inj ei1
  obtain ⟨i2, ei2⟩ := is_v ha2
  obtain rfl : w2 = (.int i2) := Option.some.inj ei2
  have wS : ∀ a ∈ Bundle.stringAtoms, a.before #[.int i0, .int i1, .int i2] s = true := fun a ha => by
    simp only [Bundle.stringAtoms, Bundle.sN, List.mem_cons, List.not_mem_nil, or_false] at ha
    rcases ha with rfl | rfl | rfl | rfl | rfl | rfl | rfl
    · exact (hw _ (List.mem_of_getElem? (i := 3) rfl))
    · exact (hw _ (List.mem_of_getElem? (i := 2) rfl))
    · exact (hw _ (List.mem_of_getElem? (i := 19) rfl))
    · exact (hw _ (List.mem_of_getElem? (i := 29) rfl))
    · exact (hw _ (List.mem_of_getElem? (i := 27) rfl))
    · exact (hw _ (List.mem_of_getElem? (i := 31) rfl))
    · exact (hw _ (List.mem_of_getElem? (i := 32) rfl))
  have hcw : Jvm.Lit.compactW.before #[.int i0, .int i1, .int i2] s = true := hsets _ (List.mem_of_getElem? (i := 2) rfl)
  obtain ⟨cz, ecz⟩ := is_v (Cond.before_iff.mp (hsets _ (List.mem_of_getElem? (i := 1) rfl)))
  have hC : Own.CSt (l, s, #[.int i0, .int i1, .int i2], false) := ⟨cz, Sta.start ecz (Or.inl (hsets _ (List.mem_of_getElem? (i := 0) rfl))), gotF (Cond.eq_ints ecz (Term.int_eval (0))) (not_v (Cond.before_iff.mp (hsets _ (List.mem_of_getElem? (i := 2) rfl))))⟩
  have hk0 := fun q (hq : q ∈ consts_1) => hcalls.1 q hq
  obtain ⟨n, o, g1, g2, g3, v, L, A, I, rfl, rfl, -, -, N, hq, hnw⟩ := ct_law (l, s, #[.int i0, .int i1, .int i2], false) hw tables_1 hC rfl wS hcw (hk0 _ (List.mem_of_getElem? (i := 2) rfl)) (hk0 _ (List.mem_of_getElem? (i := 3) rfl)) (hk0 _ (List.mem_of_getElem? (i := 4) rfl)) (hk0 _ (List.mem_of_getElem? (i := 0) rfl)) (hk0 _ (List.mem_of_getElem? (i := 1) rfl)) (hk0 _ (List.mem_of_getElem? (i := 5) rfl)) i0 i1 i2 p e ha hc hk s m _ below hf ((Spec.applies_iff_loose hf).mp happ).1 ⟨rfl, State.Warmed39.refl s, Own.Inv.start _ _ _ _, Own.LI.start s⟩ trivial
  exact ⟨n, _, g1, g2, g3, hpost _ _ _ _ _ _ ⟨Cond.after_iff.mpr rfl, Cond.after_iff.mpr (eq_i res_at (Term.int_eval (1)) rfl)⟩ ⟨⟨_, rfl⟩, hq.2.1, hq.2.2.1, (hq.2.2.2.sift fun y hy => Or.inr (N y hy)).mono (by decide) (by decide)⟩⟩
theorem main_1_1 : Claimed_1_1 := comes_1 fun _ _ _ _ _ _ h hF => ⟨h.1, hF⟩
theorem main_1_2 : Claimed_1_2 := comes_1 fun _ _ _ _ _ _ h hF => ⟨h.2, hF⟩
end Jvm.Pilot.@@N@@
namespace Jvm.Pilot.@@N@@
open Jvm Jvm.ClassFile Sem Op Lib Jvm.Free Jvm.Stand Jvm.Pilot.@@N@@.Jvm.D
/-! MADE BY PROGRAM (witnessworld.py) out of the Statement's table words and the real class files: 32 classes; the members and pool entries that the words name. The judged class is class 1, her method 1. -/
namespace start1
open Jvm.ClassFile
def u (s : String) : CpInfo := .utf8 (stringToUtf16 s)
/-- a pool by its gaps: so many unusable entries, then the entry; so many at the end -/
def gap : Nat → List CpInfo → List CpInfo
  | 0, r => r
  | n + 1, r => .unusable :: gap n r
def poolList (es : List (Nat × CpInfo)) (last : Nat) : List CpInfo := es.foldr (fun e r => gap e.1 (e.2 :: r)) (gap last [])
def pool (es : List (Nat × CpInfo)) (last : Nat) : Array CpInfo := ⟨poolList es last⟩
def fileOf (pool : Array CpInfo) (this : Nat) (attrs : Array Attribute := #[]) (ms : Array MethodInfo := #[]) (fl : Nat := 33) (sup : Nat := 0) (ifs : Array Nat := #[]) (fds : Array FieldInfo := #[]) : ClassFile where
  minorVersion := 0
  majorVersion := 65
  constantPool := pool
  accessFlags := fl
  thisClass := this
  superClass := sup
  interfaces := ifs
  fields := fds
  methods := ms
  attributes := attrs
def plain (name : String) (sup : Option ClassId) : Class where
  name := name
  kind := .ordinary
  loader := none
  accessFlags := 33
  super := sup
  interfaces := #[]
  cf := none
  fields := #[]
  methods := #[]
  instanceTypes := #[]
  staticTypes := #[]
  resolved := #[]
  callSites := []
  init := .initialized
  statics := none
  mirror := none

def pool0 : Array CpInfo := pool [(5, u "<init>"), (0, u "()V"), (1, .class_ 10), (1, u "java/lang/Object")] 113

def k0c0 : Code := { maxStack := 0, maxLocals := 1, code := object_method_1_code, exceptionTable := #[], attributes := #[] }
def k0m0 : Method := { name := "<init>", desc := "()V", sig := { parameters := [], returnType := none }, accessFlags := 1, code := some k0c0 }
/-- java/lang/Object -/
def k0 : Class := { plain "java/lang/Object" none with
  accessFlags := 33
  interfaces := #[]
  cf := some (fileOf pool0 8 #[] #[{ accessFlags := 1, nameIndex := 5, descriptorIndex := 6, attributes := #[] }] 33 0 #[] #[])
  fields := #[]
  methods := #[k0m0]
  instanceTypes := #[]
  staticTypes := #[]
  resolved := Array.replicate 124 none
  statics := none }

def pool1 : Array CpInfo := pool [(2, .class_ 4), (1, u "java/lang/Object"), (0, u "<init>"), (0, u "()V"), (0, .string 8), (0, u ""), (0, .class_ 10), (0, u "java/lang/String"), (0, .methodref 9 12), (0, .nameAndType 5 13), (0, u "([C)V"), (0, .methodref 15 16), (0, .class_ 17), (0, .nameAndType 18 19), (0, u "com/example/precedence/precedence/MissingLinePinLaw"), (0, u "expected"), (0, u "(ZZCCCC)[C"), (0, .class_ 21), (0, u "com/example/precedence/precedence/Problem$Missing"), (0, .methodref 20 23), (0, .nameAndType 5 24), (0, u "(Ljava/lang/String;Ljava/lang/String;)V"), (0, .methodref 20 26), (0, .nameAndType 27 28), (0, u "line"), (0, u "()Ljava/lang/String;"), (0, .methodref 9 30), (0, .nameAndType 31 32), (0, u "equals"), (0, u "(Ljava/lang/Object;)Z"), (2, u "law"), (0, u "(III)Z")] 9

def k1m0 : Method := { name := "<init>", desc := "()V", sig := { parameters := [], returnType := none }, accessFlags := 1, code := none }
def k1c1 : Code := { maxStack := 6, maxLocals := 16, code := code, exceptionTable := #[], attributes := #[] }
def k1m1 : Method := { name := "law", desc := "(III)Z", sig := { parameters := [.int, .int, .int], returnType := some .boolean }, accessFlags := 9, code := some k1c1 }
def k1c2 : Code := { maxStack := 4, maxLocals := 6, code := method_3_code, exceptionTable := #[], attributes := #[] }
def k1m2 : Method := { name := "expected", desc := "(ZZCCCC)[C", sig := { parameters := [.boolean, .boolean, .char, .char, .char, .char], returnType := some (.array .char) }, accessFlags := 10, code := some k1c2 }
/-- com/example/precedence/precedence/MissingLinePinLaw -/
def k1 : Class := { plain "com/example/precedence/precedence/MissingLinePinLaw" (some 0) with
  accessFlags := 49
  interfaces := #[]
  cf := some (fileOf pool1 15 #[] #[{ accessFlags := 1, nameIndex := 5, descriptorIndex := 6, attributes := #[] }, { accessFlags := 9, nameIndex := 35, descriptorIndex := 36, attributes := #[] }, { accessFlags := 10, nameIndex := 18, descriptorIndex := 19, attributes := #[] }] 49 2 #[] #[])
  fields := #[]
  methods := #[k1m0, k1m1, k1m2]
  instanceTypes := #[]
  staticTypes := #[]
  resolved := Array.replicate 46 none
  statics := none }

def pool2 : Array CpInfo := pool [(1, .class_ 2), (0, u "java/io/Serializable"), (0, .class_ 4), (0, u "java/lang/Object")] 2

/-- java/io/Serializable -/
def k2 : Class := { plain "java/io/Serializable" (some 0) with
  accessFlags := 1537
  interfaces := #[]
  cf := some (fileOf pool2 1 #[] #[] 1537 3 #[] #[])
  fields := #[]
  methods := #[]
  instanceTypes := #[]
  staticTypes := #[]
  resolved := Array.replicate 7 none
  statics := none }

def pool3 : Array CpInfo := pool [(1, .class_ 2), (0, u "java/lang/Comparable"), (0, .class_ 4), (0, u "java/lang/Object")] 7

/-- java/lang/Comparable -/
def k3 : Class := { plain "java/lang/Comparable" (some 0) with
  accessFlags := 1537
  interfaces := #[]
  cf := some (fileOf pool3 1 #[] #[] 1537 3 #[] #[])
  fields := #[]
  methods := #[]
  instanceTypes := #[]
  staticTypes := #[]
  resolved := Array.replicate 12 none
  statics := none }

def pool4 : Array CpInfo := pool [(2, .class_ 4), (1, u "java/lang/CharSequence"), (42, .class_ 48), (0, u "java/lang/CharSequence$1CodePointIterator"), (10, .class_ 60), (0, u "java/lang/CharSequence$1CharIterator"), (5, .class_ 67), (0, u "java/lang/Object")] 63

/-- java/lang/CharSequence -/
def k4 : Class := { plain "java/lang/CharSequence" (some 0) with
  accessFlags := 1537
  interfaces := #[]
  cf := some (fileOf pool4 2 #[.nestMembers #[47, 59]] #[] 1537 66 #[] #[])
  fields := #[]
  methods := #[]
  instanceTypes := #[]
  staticTypes := #[]
  resolved := Array.replicate 131 none
  statics := none }

def pool5 : Array CpInfo := pool [(1, .class_ 2), (0, u "java/lang/constant/Constable"), (0, .class_ 4), (0, u "java/lang/Object")] 6

/-- java/lang/constant/Constable -/
def k5 : Class := { plain "java/lang/constant/Constable" (some 0) with
  accessFlags := 1537
  interfaces := #[]
  cf := some (fileOf pool5 1 #[] #[] 1537 3 #[] #[])
  fields := #[]
  methods := #[]
  instanceTypes := #[]
  staticTypes := #[]
  resolved := Array.replicate 11 none
  statics := none }

def pool6 : Array CpInfo := pool [(1, .class_ 2), (0, u "java/lang/constant/ConstantDesc"), (0, .class_ 4), (0, u "java/lang/Object")] 32

/-- java/lang/constant/ConstantDesc -/
def k6 : Class := { plain "java/lang/constant/ConstantDesc" (some 0) with
  accessFlags := 1537
  interfaces := #[]
  cf := some (fileOf pool6 1 #[] #[] 1537 3 #[] #[])
  fields := #[]
  methods := #[]
  instanceTypes := #[]
  staticTypes := #[]
  resolved := Array.replicate 37 none
  statics := none }

def pool7 : Array CpInfo := pool [(1, .methodref 2 3), (0, .class_ 4), (0, .nameAndType 5 6), (0, u "java/lang/Object"), (0, u "<init>"), (0, u "()V"), (2, .fieldref 10 11), (0, .class_ 12), (0, .nameAndType 13 14), (0, u "java/lang/String"), (0, u "value"), (0, u "[B"), (0, .fieldref 10 16), (0, .nameAndType 17 18), (0, u "coder"), (0, u "B"), (2, u "hash"), (0, u "I"), (2, u "hashIsZero"), (0, u "Z"), (0, .methodref 10 28), (0, .nameAndType 5 29), (0, u "([CIILjava/lang/Void;)V"), (8, .fieldref 10 39), (0, .nameAndType 40 26), (0, u "COMPACT_STRINGS"), (1, .class_ 44), (1, u "java/lang/StringUTF16"), (0, u "compress"), (1, .methodref 42 48), (0, .nameAndType 49 50), (0, u "coderFromArrayLen"), (0, u "([BI)B"), (3, .methodref 55 56), (0, .class_ 57), (0, .nameAndType 58 59), (0, u "java/util/Arrays"), (0, u "copyOfRange"), (0, u "([BII)[B"), (47, .class_ 109), (1, u "java/lang/StringLatin1"), (32, u "()Z"), (34, .methodref 42 178), (0, .nameAndType 45 179), (0, u "([CII)[B"), (13, .class_ 195), (1, u "java/lang/System"), (16, .methodref 193 213), (0, .nameAndType 214 215), (0, u "arraycopy"), (0, u "(Ljava/lang/Object;ILjava/lang/Object;II)V"), (118, u "()I"), (0, .methodref 10 336), (0, .nameAndType 17 337), (0, u "()B"), (2, u "()[B"), (148, .methodref 10 490), (0, .nameAndType 5 491), (0, u "(Ljava/lang/AbstractStringBuilder;Ljava/lang/Void;)V"), (1, .nameAndType 494 142), (0, u "isLatin1"), (11, .nameAndType 507 334), (0, u "length"), (24, u "getBytes"), (8, .methodref 107 542), (0, .nameAndType 543 544), (0, u "equals"), (0, u "([B[B)Z"), (4, .methodref 550 506), (0, .class_ 551), (0, u "java/lang/AbstractStringBuilder"), (0, .methodref 550 553), (0, .nameAndType 554 340), (0, u "getValue"), (18, u "(Ljava/lang/Object;)Z"), (1, .class_ 576), (0, u "java/lang/CharSequence"), (22, u "CASE_INSENSITIVE_ORDER"), (0, u "Ljava/util/Comparator;"), (220, u "([BIB)V"), (188, u "([C)V"), (36, .methodref 550 493), (53, u "serialPersistentFields"), (0, u "[Ljava/io/ObjectStreamField;"), (0, .class_ 1104), (0, u "java/lang/String$CaseInsensitiveComparator"), (1, .class_ 1107), (0, u "java/io/Serializable"), (0, .class_ 1109), (0, u "java/lang/Comparable"), (0, .class_ 1111), (0, u "java/lang/constant/Constable"), (0, .class_ 1113), (0, u "java/lang/constant/ConstantDesc"), (2, u "serialVersionUID"), (0, u "J"), (3, u "REPL"), (0, u "C"), (2, u "LATIN1"), (1, u "UTF16"), (105, u "(Ljava/lang/StringBuilder;)V")] 217

def k7m0 : Method := { name := "<init>", desc := "()V", sig := { parameters := [], returnType := none }, accessFlags := 1, code := none }
def k7c1 : Code := { maxStack := 5, maxLocals := 2, code := jdk_42_method_3_code, exceptionTable := #[], attributes := #[] }
def k7m1 : Method := { name := "<init>", desc := "([C)V", sig := { parameters := [(.array .char)], returnType := none }, accessFlags := 1, code := some k7c1 }
def k7c2 : Code := { maxStack := 3, maxLocals := 2, code := jdk_42_method_53_code, exceptionTable := #[], attributes := #[] }
def k7m2 : Method := { name := "<init>", desc := "(Ljava/lang/StringBuilder;)V", sig := { parameters := [(.object "java/lang/StringBuilder")], returnType := none }, accessFlags := 1, code := some k7c2 }
def k7c3 : Code := { maxStack := 2, maxLocals := 1, code := jdk_42_method_54_code, exceptionTable := #[], attributes := #[] }
def k7m3 : Method := { name := "length", desc := "()I", sig := { parameters := [], returnType := some .int }, accessFlags := 1, code := some k7c3 }
def k7c4 : Code := { maxStack := 2, maxLocals := 3, code := jdk_42_method_66_code, exceptionTable := #[], attributes := #[] }
def k7m4 : Method := { name := "equals", desc := "(Ljava/lang/Object;)Z", sig := { parameters := [(.object "java/lang/Object")], returnType := some .boolean }, accessFlags := 1, code := some k7c4 }
def k7c5 : Code := { maxStack := 5, maxLocals := 4, code := jdk_42_method_147_code, exceptionTable := #[], attributes := #[] }
def k7m5 : Method := { name := "getBytes", desc := "([BIB)V", sig := { parameters := [(.array .byte), .int, .byte], returnType := none }, accessFlags := 0, code := some k7c5 }
def k7c6 : Code := { maxStack := 4, maxLocals := 6, code := jdk_42_method_149_code, exceptionTable := #[], attributes := #[] }
def k7m6 : Method := { name := "<init>", desc := "([CIILjava/lang/Void;)V", sig := { parameters := [(.array .char), .int, .int, (.object "java/lang/Void")], returnType := none }, accessFlags := 2, code := some k7c6 }
def k7c7 : Code := { maxStack := 5, maxLocals := 5, code := jdk_42_method_150_code, exceptionTable := #[], attributes := #[] }
def k7m7 : Method := { name := "<init>", desc := "(Ljava/lang/AbstractStringBuilder;Ljava/lang/Void;)V", sig := { parameters := [(.object "java/lang/AbstractStringBuilder"), (.object "java/lang/Void")], returnType := none }, accessFlags := 0, code := some k7c7 }
def k7c8 : Code := { maxStack := 1, maxLocals := 1, code := jdk_42_method_152_code, exceptionTable := #[], attributes := #[] }
def k7m8 : Method := { name := "coder", desc := "()B", sig := { parameters := [], returnType := some .byte }, accessFlags := 0, code := some k7c8 }
/-- java/lang/String -/
def k7 : Class := { plain "java/lang/String" (some 0) with
  accessFlags := 49
  interfaces := #[2, 3, 4, 5, 6]
  cf := some (fileOf pool7 10 #[.nestMembers #[1103]] #[{ accessFlags := 1, nameIndex := 5, descriptorIndex := 6, attributes := #[] }, { accessFlags := 1, nameIndex := 5, descriptorIndex := 1010, attributes := #[] }, { accessFlags := 1, nameIndex := 5, descriptorIndex := 1233, attributes := #[] }, { accessFlags := 1, nameIndex := 507, descriptorIndex := 334, attributes := #[] }, { accessFlags := 1, nameIndex := 543, descriptorIndex := 573, attributes := #[] }, { accessFlags := 0, nameIndex := 532, descriptorIndex := 821, attributes := #[] }, { accessFlags := 2, nameIndex := 5, descriptorIndex := 29, attributes := #[] }, { accessFlags := 0, nameIndex := 5, descriptorIndex := 491, attributes := #[] }, { accessFlags := 0, nameIndex := 17, descriptorIndex := 337, attributes := #[] }] 49 2 #[1106, 1108, 575, 1110, 1112] #[{ accessFlags := 18, nameIndex := 13, descriptorIndex := 14, attributes := #[] }, { accessFlags := 18, nameIndex := 17, descriptorIndex := 18, attributes := #[] }, { accessFlags := 2, nameIndex := 21, descriptorIndex := 22, attributes := #[] }, { accessFlags := 2, nameIndex := 25, descriptorIndex := 26, attributes := #[] }, { accessFlags := 26, nameIndex := 1116, descriptorIndex := 1117, attributes := #[] }, { accessFlags := 24, nameIndex := 40, descriptorIndex := 26, attributes := #[] }, { accessFlags := 26, nameIndex := 1101, descriptorIndex := 1102, attributes := #[] }, { accessFlags := 26, nameIndex := 1121, descriptorIndex := 1122, attributes := #[] }, { accessFlags := 25, nameIndex := 599, descriptorIndex := 600, attributes := #[] }, { accessFlags := 24, nameIndex := 1125, descriptorIndex := 18, attributes := #[] }, { accessFlags := 24, nameIndex := 1127, descriptorIndex := 18, attributes := #[] }])
  fields := #[{ name := "value", type := (.array .byte), accessFlags := 18, slot := 0, constantValue := 0 }, { name := "coder", type := .byte, accessFlags := 18, slot := 1, constantValue := 0 }, { name := "hash", type := .int, accessFlags := 2, slot := 2, constantValue := 0 }, { name := "hashIsZero", type := .boolean, accessFlags := 2, slot := 3, constantValue := 0 }, { name := "serialVersionUID", type := .long, accessFlags := 26, slot := 0, constantValue := 0 }, { name := "COMPACT_STRINGS", type := .boolean, accessFlags := 24, slot := 1, constantValue := 0 }, { name := "serialPersistentFields", type := (.array (.object "java/io/ObjectStreamField")), accessFlags := 26, slot := 2, constantValue := 0 }, { name := "REPL", type := .char, accessFlags := 26, slot := 3, constantValue := 0 }, { name := "CASE_INSENSITIVE_ORDER", type := (.object "java/util/Comparator"), accessFlags := 25, slot := 4, constantValue := 0 }, { name := "LATIN1", type := .byte, accessFlags := 24, slot := 5, constantValue := 0 }, { name := "UTF16", type := .byte, accessFlags := 24, slot := 6, constantValue := 0 }]
  methods := #[k7m0, k7m1, k7m2, k7m3, k7m4, k7m5, k7m6, k7m7, k7m8]
  instanceTypes := #[(.array .byte), .byte, .int, .boolean]
  staticTypes := #[.long, .boolean, (.array (.object "java/io/ObjectStreamField")), .char, (.object "java/util/Comparator"), .byte, .byte]
  resolved := Array.replicate 1451 none
  statics := some 0 }

def pool8 : Array CpInfo := pool [(6, .class_ 8), (1, u "java/lang/Object"), (0, u "<init>"), (0, u "()V"), (1, .class_ 14), (1, u "java/lang/StringUTF16"), (31, u "$assertionsDisabled"), (0, u "Z"), (13, u "HI_BYTE_SHIFT"), (0, u "I"), (2, u "LO_BYTE_SHIFT"), (49, .methodref 12 116), (0, .nameAndType 117 118), (0, u "compress"), (0, u "([CI[BII)I"), (3, u "([CII)[B"), (138, u "coderFromArrayLen"), (0, u "([BI)B"), (106, .class_ 371), (1, u "java/lang/StringUTF16$LinesSpliterator"), (58, u "MAX_LENGTH"), (196, .class_ 628), (0, u "java/lang/StringUTF16$CodePointsSpliterator"), (0, .class_ 630), (0, u "java/lang/StringUTF16$CharsSpliterator")] 4

def k8m0 : Method := { name := "<init>", desc := "()V", sig := { parameters := [], returnType := none }, accessFlags := 0, code := none }
def k8c1 : Code := { maxStack := 2, maxLocals := 2, code := jdk_52_method_15_code, exceptionTable := #[], attributes := #[] }
def k8m1 : Method := { name := "coderFromArrayLen", desc := "([BI)B", sig := { parameters := [(.array .byte), .int], returnType := some .byte }, accessFlags := 8, code := some k8c1 }
def k8c2 : Code := { maxStack := 5, maxLocals := 6, code := jdk_52_method_16_code, exceptionTable := #[], attributes := #[] }
def k8m2 : Method := { name := "compress", desc := "([CII)[B", sig := { parameters := [(.array .char), .int, .int], returnType := some (.array .byte) }, accessFlags := 9, code := some k8c2 }
def k8c3 : Code := { maxStack := 3, maxLocals := 7, code := jdk_52_method_21_code, exceptionTable := #[], attributes := #[] }
def k8m3 : Method := { name := "compress", desc := "([CI[BII)I", sig := { parameters := [(.array .char), .int, (.array .byte), .int, .int], returnType := some .int }, accessFlags := 9, code := some k8c3 }
/-- java/lang/StringUTF16 -/
def k8 : Class := { plain "java/lang/StringUTF16" (some 0) with
  accessFlags := 48
  interfaces := #[]
  cf := some (fileOf pool8 12 #[.nestMembers #[627, 629, 369]] #[{ accessFlags := 0, nameIndex := 9, descriptorIndex := 10, attributes := #[] }, { accessFlags := 8, nameIndex := 261, descriptorIndex := 262, attributes := #[] }, { accessFlags := 9, nameIndex := 117, descriptorIndex := 122, attributes := #[] }, { accessFlags := 9, nameIndex := 117, descriptorIndex := 118, attributes := #[] }] 48 6 #[] #[{ accessFlags := 26, nameIndex := 61, descriptorIndex := 62, attributes := #[] }, { accessFlags := 26, nameIndex := 65, descriptorIndex := 62, attributes := #[] }, { accessFlags := 24, nameIndex := 430, descriptorIndex := 62, attributes := #[] }, { accessFlags := 4120, nameIndex := 46, descriptorIndex := 47, attributes := #[] }])
  fields := #[{ name := "HI_BYTE_SHIFT", type := .int, accessFlags := 26, slot := 0, constantValue := 0 }, { name := "LO_BYTE_SHIFT", type := .int, accessFlags := 26, slot := 1, constantValue := 0 }, { name := "MAX_LENGTH", type := .int, accessFlags := 24, slot := 2, constantValue := 0 }, { name := "$assertionsDisabled", type := .boolean, accessFlags := 4120, slot := 3, constantValue := 0 }]
  methods := #[k8m0, k8m1, k8m2, k8m3]
  instanceTypes := #[]
  staticTypes := #[.int, .int, .int, .boolean]
  resolved := Array.replicate 635 none
  statics := none }

def pool9 : Array CpInfo := pool [(1, .methodref 2 3), (0, .class_ 4), (0, .nameAndType 5 6), (0, u "java/lang/Object"), (0, u "<init>"), (0, u "()V"), (0, .class_ 8), (0, u "java/lang/Record")] 13

def k9c0 : Code := { maxStack := 1, maxLocals := 1, code := jdk_30_method_1_code, exceptionTable := #[], attributes := #[] }
def k9m0 : Method := { name := "<init>", desc := "()V", sig := { parameters := [], returnType := none }, accessFlags := 4, code := some k9c0 }
/-- java/lang/Record -/
def k9 : Class := { plain "java/lang/Record" (some 0) with
  accessFlags := 1057
  interfaces := #[]
  cf := some (fileOf pool9 7 #[] #[{ accessFlags := 4, nameIndex := 5, descriptorIndex := 6, attributes := #[] }] 1057 2 #[] #[])
  fields := #[]
  methods := #[k9m0]
  instanceTypes := #[]
  staticTypes := #[]
  resolved := Array.replicate 22 none
  statics := none }

def pool10 : Array CpInfo := pool [(1, .class_ 2), (0, u "com/example/precedence/precedence/Problem"), (0, .class_ 4), (0, u "java/lang/Object"), (7, .class_ 13), (0, u "com/example/precedence/precedence/Problem$Condition"), (0, .class_ 15), (0, u "com/example/precedence/precedence/Problem$Missing"), (0, .class_ 17), (0, u "com/example/precedence/precedence/Problem$Cycle"), (0, .class_ 19), (0, u "com/example/precedence/precedence/Problem$Kind")] 6

/-- com/example/precedence/precedence/Problem -/
def k10 : Class := { plain "com/example/precedence/precedence/Problem" (some 0) with
  accessFlags := 1537
  interfaces := #[]
  cf := some (fileOf pool10 1 #[.nestMembers #[12, 14, 16, 18]] #[] 1537 3 #[] #[])
  fields := #[]
  methods := #[]
  instanceTypes := #[]
  staticTypes := #[]
  resolved := Array.replicate 26 none
  statics := none }

def pool11 : Array CpInfo := pool [(1, .methodref 2 3), (0, .class_ 4), (0, .nameAndType 5 6), (0, u "java/lang/Record"), (0, u "<init>"), (0, u "()V"), (0, .string 8), (0, u "member"), (0, .methodref 10 11), (0, .class_ 12), (0, .nameAndType 13 14), (0, u "java/util/Objects"), (0, u "requireNonNull"), (0, u "(Ljava/lang/Object;Ljava/lang/String;)Ljava/lang/Object;"), (0, .string 16), (0, u "dependency"), (0, .fieldref 18 19), (0, .class_ 20), (0, .nameAndType 8 21), (0, u "com/example/precedence/precedence/Problem$Missing"), (0, u "Ljava/lang/String;"), (0, .fieldref 18 23), (0, .nameAndType 16 21), (6, .class_ 31), (0, u "java/lang/StringBuilder"), (0, .methodref 30 3), (0, .string 34), (0, u "start: "), (0, .methodref 30 36), (0, .nameAndType 37 38), (0, u "append"), (0, u "(Ljava/lang/String;)Ljava/lang/StringBuilder;"), (0, .methodref 40 41), (0, .class_ 42), (0, .nameAndType 43 44), (0, u "com/example/precedence/precedence/MissingDependencyException"), (0, u "message"), (0, u "(Ljava/lang/String;Ljava/lang/String;)Ljava/lang/String;"), (0, .methodref 30 46), (0, .nameAndType 47 48), (0, u "toString"), (0, u "()Ljava/lang/String;"), (11, .class_ 61), (0, u "com/example/precedence/precedence/Problem"), (0, u "(Ljava/lang/String;Ljava/lang/String;)V"), (5, u "line")] 26

def k11c0 : Code := { maxStack := 2, maxLocals := 3, code := prog_29_method_1_code, exceptionTable := #[], attributes := #[] }
def k11m0 : Method := { name := "<init>", desc := "(Ljava/lang/String;Ljava/lang/String;)V", sig := { parameters := [(.object "java/lang/String"), (.object "java/lang/String")], returnType := none }, accessFlags := 1, code := some k11c0 }
def k11c1 : Code := { maxStack := 3, maxLocals := 1, code := prog_29_method_3_code, exceptionTable := #[], attributes := #[] }
def k11m1 : Method := { name := "line", desc := "()Ljava/lang/String;", sig := { parameters := [], returnType := some (.object "java/lang/String") }, accessFlags := 1, code := some k11c1 }
/-- com/example/precedence/precedence/Problem$Missing -/
def k11 : Class := { plain "com/example/precedence/precedence/Problem$Missing" (some 9) with
  accessFlags := 49
  interfaces := #[10]
  cf := some (fileOf pool11 18 #[.nestHost 60] #[{ accessFlags := 1, nameIndex := 5, descriptorIndex := 62, attributes := #[] }, { accessFlags := 1, nameIndex := 68, descriptorIndex := 48, attributes := #[] }] 49 2 #[60] #[{ accessFlags := 18, nameIndex := 8, descriptorIndex := 21, attributes := #[] }, { accessFlags := 18, nameIndex := 16, descriptorIndex := 21, attributes := #[] }])
  fields := #[{ name := "member", type := (.object "java/lang/String"), accessFlags := 18, slot := 0, constantValue := 0 }, { name := "dependency", type := (.object "java/lang/String"), accessFlags := 18, slot := 1, constantValue := 0 }]
  methods := #[k11m0, k11m1]
  instanceTypes := #[(.object "java/lang/String"), (.object "java/lang/String")]
  staticTypes := #[]
  resolved := Array.replicate 95 none
  statics := none }

def pool12 : Array CpInfo := pool [(2, .class_ 4), (1, u "java/lang/Object"), (0, u "<init>"), (0, u "()V"), (35, .class_ 44), (1, u "java/util/Objects"), (0, u "requireNonNull"), (48, u "(Ljava/lang/Object;Ljava/lang/String;)Ljava/lang/Object;")] 89

def k12m0 : Method := { name := "<init>", desc := "()V", sig := { parameters := [], returnType := none }, accessFlags := 2, code := none }
def k12c1 : Code := { maxStack := 3, maxLocals := 2, code := jdk_31_method_11_code, exceptionTable := #[], attributes := #[] }
def k12m1 : Method := { name := "requireNonNull", desc := "(Ljava/lang/Object;Ljava/lang/String;)Ljava/lang/Object;", sig := { parameters := [(.object "java/lang/Object"), (.object "java/lang/String")], returnType := some (.object "java/lang/Object") }, accessFlags := 9, code := some k12c1 }
/-- java/util/Objects -/
def k12 : Class := { plain "java/util/Objects" (some 0) with
  accessFlags := 49
  interfaces := #[]
  cf := some (fileOf pool12 42 #[] #[{ accessFlags := 2, nameIndex := 5, descriptorIndex := 6, attributes := #[] }, { accessFlags := 9, nameIndex := 45, descriptorIndex := 94, attributes := #[] }] 49 2 #[] #[])
  fields := #[]
  methods := #[k12m0, k12m1]
  instanceTypes := #[]
  staticTypes := #[]
  resolved := Array.replicate 184 none
  statics := none }

def pool13 : Array CpInfo := pool [(1, .class_ 2), (0, u "java/lang/Appendable"), (0, .class_ 4), (0, u "java/lang/Object")] 9

/-- java/lang/Appendable -/
def k13 : Class := { plain "java/lang/Appendable" (some 0) with
  accessFlags := 1537
  interfaces := #[]
  cf := some (fileOf pool13 1 #[] #[] 1537 3 #[] #[])
  fields := #[]
  methods := #[]
  instanceTypes := #[]
  staticTypes := #[]
  resolved := Array.replicate 14 none
  statics := none }

def pool14 : Array CpInfo := pool [(1, .class_ 2), (0, u "java/lang/String"), (0, .methodref 4 5), (0, .class_ 6), (0, .nameAndType 7 8), (0, u "java/lang/Object"), (0, u "<init>"), (0, u "()V"), (1, .class_ 12), (1, u "java/lang/AbstractStringBuilder"), (0, u "EMPTYVALUE"), (0, u "[B"), (0, .fieldref 10 16), (0, .nameAndType 17 14), (0, u "value"), (0, .fieldref 1 19), (0, .nameAndType 20 21), (0, u "COMPACT_STRINGS"), (0, u "Z"), (0, .fieldref 10 23), (0, .nameAndType 24 25), (0, u "coder"), (0, u "B"), (6, .methodref 1 33), (0, .nameAndType 34 35), (0, u "length"), (0, u "()I"), (3, .integer 2147483647), (0, .methodref 1 41), (0, .nameAndType 24 42), (0, u "()B"), (2, u "append"), (0, u "(Ljava/lang/String;)Ljava/lang/AbstractStringBuilder;"), (1, .class_ 49), (0, u "java/lang/CharSequence"), (19, u "(Ljava/lang/String;)V"), (5, u "maybeLatin1"), (3, .fieldref 10 80), (0, .nameAndType 81 82), (0, u "count"), (0, u "I"), (2, u "isLatin1"), (0, u "()Z"), (13, .methodref 10 101), (0, .nameAndType 102 103), (0, u "ensureCapacityInternal"), (0, u "(I)V"), (0, .methodref 10 105), (0, .nameAndType 106 107), (0, u "newCapacity"), (0, u "(I)I"), (0, .methodref 109 110), (0, .class_ 111), (0, .nameAndType 112 113), (0, u "java/util/Arrays"), (0, u "copyOf"), (0, u "([BI)[B"), (0, .methodref 115 116), (0, .class_ 117), (0, .nameAndType 118 119), (0, u "jdk/internal/util/ArraysSupport"), (0, u "newLength"), (0, u "(III)I"), (88, .methodref 10 209), (0, .nameAndType 210 211), (0, u "putStringAt"), (0, u "(ILjava/lang/String;)V"), (5, u "inflateIfNeededFor"), (2, .nameAndType 221 222), (0, u "getBytes"), (0, u "([BIB)V"), (174, .methodref 10 398), (0, .nameAndType 217 69), (0, .methodref 1 220), (3, u "()[B"), (40, .class_ 445), (0, u "java/lang/Appendable"), (106, u "getValue")] 56

def k14m0 : Method := { name := "<init>", desc := "()V", sig := { parameters := [], returnType := none }, accessFlags := 0, code := none }
def k14c1 : Code := { maxStack := 2, maxLocals := 2, code := jdk_68_method_2_code, exceptionTable := #[], attributes := #[] }
def k14m1 : Method := { name := "<init>", desc := "(I)V", sig := { parameters := [.int], returnType := none }, accessFlags := 0, code := some k14c1 }
def k14c2 : Code := { maxStack := 1, maxLocals := 1, code := jdk_68_method_6_code, exceptionTable := #[], attributes := #[] }
def k14m2 : Method := { name := "length", desc := "()I", sig := { parameters := [], returnType := some .int }, accessFlags := 1, code := some k14c2 }
def k14c3 : Code := { maxStack := 4, maxLocals := 3, code := jdk_68_method_9_code, exceptionTable := #[], attributes := #[] }
def k14m3 : Method := { name := "ensureCapacityInternal", desc := "(I)V", sig := { parameters := [.int], returnType := none }, accessFlags := 2, code := some k14c3 }
def k14c4 : Code := { maxStack := 5, maxLocals := 6, code := jdk_68_method_10_code, exceptionTable := #[], attributes := #[] }
def k14m4 : Method := { name := "newCapacity", desc := "(I)I", sig := { parameters := [.int], returnType := some .int }, accessFlags := 2, code := some k14c4 }
def k14c5 : Code := { maxStack := 3, maxLocals := 3, code := jdk_68_method_22_code, exceptionTable := #[], attributes := #[] }
def k14m5 : Method := { name := "append", desc := "(Ljava/lang/String;)Ljava/lang/AbstractStringBuilder;", sig := { parameters := [(.object "java/lang/String")], returnType := some (.object "java/lang/AbstractStringBuilder") }, accessFlags := 1, code := some k14c5 }
def k14c6 : Code := { maxStack := 1, maxLocals := 1, code := jdk_68_method_64_code, exceptionTable := #[], attributes := #[] }
def k14m6 : Method := { name := "getValue", desc := "()[B", sig := { parameters := [], returnType := some (.array .byte) }, accessFlags := 16, code := some k14c6 }
def k14c7 : Code := { maxStack := 1, maxLocals := 1, code := jdk_68_method_68_code, exceptionTable := #[], attributes := #[] }
def k14m7 : Method := { name := "isLatin1", desc := "()Z", sig := { parameters := [], returnType := some .boolean }, accessFlags := 16, code := some k14c7 }
def k14c8 : Code := { maxStack := 2, maxLocals := 2, code := jdk_68_method_71_code, exceptionTable := #[], attributes := #[] }
def k14m8 : Method := { name := "inflateIfNeededFor", desc := "(Ljava/lang/String;)V", sig := { parameters := [(.object "java/lang/String")], returnType := none }, accessFlags := 2, code := some k14c8 }
def k14c9 : Code := { maxStack := 4, maxLocals := 3, code := jdk_68_method_73_code, exceptionTable := #[], attributes := #[] }
def k14m9 : Method := { name := "putStringAt", desc := "(ILjava/lang/String;)V", sig := { parameters := [.int, (.object "java/lang/String")], returnType := none }, accessFlags := 2, code := some k14c9 }
/-- java/lang/AbstractStringBuilder -/
def k14 : Class := { plain "java/lang/AbstractStringBuilder" (some 0) with
  accessFlags := 1056
  interfaces := #[13, 4]
  cf := some (fileOf pool14 10 #[] #[{ accessFlags := 0, nameIndex := 7, descriptorIndex := 8, attributes := #[] }, { accessFlags := 0, nameIndex := 7, descriptorIndex := 103, attributes := #[] }, { accessFlags := 1, nameIndex := 34, descriptorIndex := 35, attributes := #[] }, { accessFlags := 2, nameIndex := 102, descriptorIndex := 103, attributes := #[] }, { accessFlags := 2, nameIndex := 106, descriptorIndex := 107, attributes := #[] }, { accessFlags := 1, nameIndex := 45, descriptorIndex := 46, attributes := #[] }, { accessFlags := 16, nameIndex := 552, descriptorIndex := 403, attributes := #[] }, { accessFlags := 16, nameIndex := 85, descriptorIndex := 86, attributes := #[] }, { accessFlags := 2, nameIndex := 217, descriptorIndex := 69, attributes := #[] }, { accessFlags := 2, nameIndex := 210, descriptorIndex := 211, attributes := #[] }] 1056 4 #[444, 48] #[{ accessFlags := 0, nameIndex := 17, descriptorIndex := 14, attributes := #[] }, { accessFlags := 0, nameIndex := 24, descriptorIndex := 25, attributes := #[] }, { accessFlags := 0, nameIndex := 75, descriptorIndex := 21, attributes := #[] }, { accessFlags := 0, nameIndex := 81, descriptorIndex := 82, attributes := #[] }, { accessFlags := 26, nameIndex := 13, descriptorIndex := 14, attributes := #[] }])
  fields := #[{ name := "value", type := (.array .byte), accessFlags := 0, slot := 0, constantValue := 0 }, { name := "coder", type := .byte, accessFlags := 0, slot := 1, constantValue := 0 }, { name := "maybeLatin1", type := .boolean, accessFlags := 0, slot := 2, constantValue := 0 }, { name := "count", type := .int, accessFlags := 0, slot := 3, constantValue := 0 }, { name := "EMPTYVALUE", type := (.array .byte), accessFlags := 26, slot := 0, constantValue := 0 }]
  methods := #[k14m0, k14m1, k14m2, k14m3, k14m4, k14m5, k14m6, k14m7, k14m8, k14m9]
  instanceTypes := #[(.array .byte), .byte, .boolean, .int]
  staticTypes := #[(.array .byte)]
  resolved := Array.replicate 609 none
  statics := none }

def pool15 : Array CpInfo := pool [(1, .methodref 2 3), (0, .class_ 4), (0, .nameAndType 5 6), (0, u "java/lang/AbstractStringBuilder"), (0, u "<init>"), (0, u "(I)V"), (11, .class_ 20), (1, u "java/lang/String"), (3, .class_ 26), (1, u "java/lang/StringBuilder"), (0, u "append"), (0, u "(Ljava/lang/String;)Ljava/lang/StringBuilder;"), (0, .methodref 2 30), (0, .nameAndType 27 31), (0, u "(Ljava/lang/String;)Ljava/lang/AbstractStringBuilder;"), (105, .methodref 18 138), (0, .nameAndType 5 139), (0, u "(Ljava/lang/StringBuilder;)V"), (5, u "()V"), (10, u "()I"), (186, .methodref 2 344), (0, .nameAndType 345 156), (0, u "length"), (3, .class_ 350), (0, u "java/lang/Appendable"), (0, .class_ 352), (0, u "java/io/Serializable"), (0, .class_ 354), (0, u "java/lang/Comparable"), (0, .class_ 356), (0, u "java/lang/CharSequence"), (0, u "serialVersionUID"), (0, u "J"), (40, u "toString"), (0, u "()Ljava/lang/String;")] 21

def k15c0 : Code := { maxStack := 2, maxLocals := 1, code := jdk_67_method_1_code, exceptionTable := #[], attributes := #[] }
def k15m0 : Method := { name := "<init>", desc := "()V", sig := { parameters := [], returnType := none }, accessFlags := 1, code := some k15c0 }
def k15c1 : Code := { maxStack := 2, maxLocals := 2, code := jdk_67_method_7_code, exceptionTable := #[], attributes := #[] }
def k15m1 : Method := { name := "append", desc := "(Ljava/lang/String;)Ljava/lang/StringBuilder;", sig := { parameters := [(.object "java/lang/String")], returnType := some (.object "java/lang/StringBuilder") }, accessFlags := 1, code := some k15c1 }
def k15c2 : Code := { maxStack := 3, maxLocals := 1, code := jdk_67_method_42_code, exceptionTable := #[], attributes := #[] }
def k15m2 : Method := { name := "toString", desc := "()Ljava/lang/String;", sig := { parameters := [], returnType := some (.object "java/lang/String") }, accessFlags := 1, code := some k15c2 }
def k15c3 : Code := { maxStack := 1, maxLocals := 1, code := jdk_67_method_93_code, exceptionTable := #[], attributes := #[] }
def k15m3 : Method := { name := "length", desc := "()I", sig := { parameters := [], returnType := some .int }, accessFlags := 4161, code := some k15c3 }
/-- java/lang/StringBuilder -/
def k15 : Class := { plain "java/lang/StringBuilder" (some 14) with
  accessFlags := 49
  interfaces := #[13, 2, 3, 4]
  cf := some (fileOf pool15 24 #[] #[{ accessFlags := 1, nameIndex := 5, descriptorIndex := 145, attributes := #[] }, { accessFlags := 1, nameIndex := 27, descriptorIndex := 28, attributes := #[] }, { accessFlags := 1, nameIndex := 399, descriptorIndex := 400, attributes := #[] }, { accessFlags := 4161, nameIndex := 345, descriptorIndex := 156, attributes := #[] }] 49 2 #[349, 351, 353, 355] #[{ accessFlags := 24, nameIndex := 357, descriptorIndex := 358, attributes := #[] }])
  fields := #[{ name := "serialVersionUID", type := .long, accessFlags := 24, slot := 0, constantValue := 0 }]
  methods := #[k15m0, k15m1, k15m2, k15m3]
  instanceTypes := #[(.array .byte), .byte, .boolean, .int]
  staticTypes := #[.long]
  resolved := Array.replicate 422 none
  statics := none }

def pool16 : Array CpInfo := pool [(2, .class_ 4), (1, u "java/lang/Object"), (0, u "<init>"), (0, u "()V"), (1, .class_ 10), (1, u "java/lang/System"), (0, u "allowSecurityManager"), (0, u "I"), (16, u "cons"), (0, u "Ljava/io/Console;"), (77, .class_ 110), (1, u "java/lang/System$CallersHolder"), (43, u "initialErrStream"), (0, u "Ljava/io/PrintStream;"), (19, u "security"), (0, u "Ljava/lang/SecurityManager;"), (31, .class_ 209), (0, u "java/lang/System$1"), (7, u "props"), (0, u "Ljava/util/Properties;"), (2, u "lineSeparator"), (0, u "Ljava/lang/String;"), (96, .class_ 321), (1, u "java/lang/System$LoggerFinder"), (5, .class_ 328), (0, u "java/lang/System$Logger"), (67, u "err"), (2, u "out"), (91, u "notSupportedJnuEncoding"), (15, u "in"), (17, u "initialIn"), (0, u "Ljava/io/InputStream;"), (35, u "bootLayer"), (0, u "Ljava/lang/ModuleLayer;"), (99, .class_ 664), (0, u "java/lang/System$2"), (9, u "NEVER"), (2, u "MAYBE"), (49, u "arraycopy"), (0, u "(Ljava/lang/Object;ILjava/lang/Object;II)V"), (72, .class_ 802), (0, u "java/lang/System$Logger$Level")] 31

def k16m0 : Method := { name := "<init>", desc := "()V", sig := { parameters := [], returnType := none }, accessFlags := 2, code := none }
def k16m1 : Method := { name := "arraycopy", desc := "(Ljava/lang/Object;ILjava/lang/Object;II)V", sig := { parameters := [(.object "java/lang/Object"), .int, (.object "java/lang/Object"), .int, .int], returnType := none }, accessFlags := 265, code := none }
/-- java/lang/System -/
def k16 : Class := { plain "java/lang/System" (some 0) with
  accessFlags := 49
  interfaces := #[]
  cf := some (fileOf pool16 8 #[.nestMembers #[319, 327, 801, 108, 663, 208]] #[{ accessFlags := 2, nameIndex := 5, descriptorIndex := 6, attributes := #[] }, { accessFlags := 265, nameIndex := 727, descriptorIndex := 728, attributes := #[] }] 49 2 #[] #[{ accessFlags := 25, nameIndex := 507, descriptorIndex := 526, attributes := #[] }, { accessFlags := 25, nameIndex := 399, descriptorIndex := 155, attributes := #[] }, { accessFlags := 25, nameIndex := 396, descriptorIndex := 155, attributes := #[] }, { accessFlags := 10, nameIndex := 525, descriptorIndex := 526, attributes := #[] }, { accessFlags := 26, nameIndex := 674, descriptorIndex := 12, attributes := #[] }, { accessFlags := 26, nameIndex := 677, descriptorIndex := 12, attributes := #[] }, { accessFlags := 10, nameIndex := 11, descriptorIndex := 12, attributes := #[] }, { accessFlags := 74, nameIndex := 175, descriptorIndex := 176, attributes := #[] }, { accessFlags := 10, nameIndex := 491, descriptorIndex := 222, attributes := #[] }, { accessFlags := 74, nameIndex := 29, descriptorIndex := 30, attributes := #[] }, { accessFlags := 74, nameIndex := 154, descriptorIndex := 155, attributes := #[] }, { accessFlags := 10, nameIndex := 217, descriptorIndex := 218, attributes := #[] }, { accessFlags := 10, nameIndex := 221, descriptorIndex := 222, attributes := #[] }, { accessFlags := 8, nameIndex := 562, descriptorIndex := 563, attributes := #[] }])
  fields := #[{ name := "in", type := (.object "java/io/InputStream"), accessFlags := 25, slot := 0, constantValue := 0 }, { name := "out", type := (.object "java/io/PrintStream"), accessFlags := 25, slot := 1, constantValue := 0 }, { name := "err", type := (.object "java/io/PrintStream"), accessFlags := 25, slot := 2, constantValue := 0 }, { name := "initialIn", type := (.object "java/io/InputStream"), accessFlags := 10, slot := 3, constantValue := 0 }, { name := "NEVER", type := .int, accessFlags := 26, slot := 4, constantValue := 0 }, { name := "MAYBE", type := .int, accessFlags := 26, slot := 5, constantValue := 0 }, { name := "allowSecurityManager", type := .int, accessFlags := 10, slot := 6, constantValue := 0 }, { name := "security", type := (.object "java/lang/SecurityManager"), accessFlags := 74, slot := 7, constantValue := 0 }, { name := "notSupportedJnuEncoding", type := (.object "java/lang/String"), accessFlags := 10, slot := 8, constantValue := 0 }, { name := "cons", type := (.object "java/io/Console"), accessFlags := 74, slot := 9, constantValue := 0 }, { name := "initialErrStream", type := (.object "java/io/PrintStream"), accessFlags := 74, slot := 10, constantValue := 0 }, { name := "props", type := (.object "java/util/Properties"), accessFlags := 10, slot := 11, constantValue := 0 }, { name := "lineSeparator", type := (.object "java/lang/String"), accessFlags := 10, slot := 12, constantValue := 0 }, { name := "bootLayer", type := (.object "java/lang/ModuleLayer"), accessFlags := 8, slot := 13, constantValue := 0 }]
  methods := #[k16m0, k16m1]
  instanceTypes := #[]
  staticTypes := #[(.object "java/io/InputStream"), (.object "java/io/PrintStream"), (.object "java/io/PrintStream"), (.object "java/io/InputStream"), .int, .int, .int, (.object "java/lang/SecurityManager"), (.object "java/lang/String"), (.object "java/io/Console"), (.object "java/io/PrintStream"), (.object "java/util/Properties"), (.object "java/lang/String"), (.object "java/lang/ModuleLayer")]
  resolved := Array.replicate 834 none
  statics := none }

def pool17 : Array CpInfo := pool [(2, .class_ 4), (1, u "java/lang/Object"), (0, u "<init>"), (0, u "()V"), (1, .class_ 10), (1, u "java/lang/Throwable"), (0, u "cause"), (0, u "Ljava/lang/Throwable;"), (2, u "UNASSIGNED_STACK"), (0, u "[Ljava/lang/StackTraceElement;"), (2, u "stackTrace"), (2, u "SUPPRESSED_SENTINEL"), (0, u "Ljava/util/List;"), (2, u "suppressedExceptions"), (6, u "detailMessage"), (0, u "Ljava/lang/String;"), (58, .class_ 94), (0, u "java/lang/Throwable$WrappedPrintStream"), (6, .class_ 103), (1, u "java/lang/Throwable$PrintStreamOrWriter"), (61, u "$assertionsDisabled"), (0, u "Z"), (26, .class_ 194), (0, u "java/lang/Throwable$WrappedPrintWriter"), (5, u "backtrace"), (0, u "Ljava/lang/Object;"), (9, u "depth"), (0, u "I"), (56, .class_ 271), (1, u "java/lang/Throwable$SentinelHolder"), (32, u "EMPTY_THROWABLE_ARRAY"), (0, u "[Ljava/lang/Throwable;"), (12, .class_ 319), (0, u "java/io/Serializable"), (0, u "serialVersionUID"), (0, u "J"), (5, u "NULL_CAUSE_MESSAGE"), (0, u "SELF_SUPPRESSION_MESSAGE"), (0, u "CAUSE_CAPTION"), (0, u "SUPPRESSED_CAPTION")] 73

def k17m0 : Method := { name := "<init>", desc := "()V", sig := { parameters := [], returnType := none }, accessFlags := 1, code := none }
/-- java/lang/Throwable -/
def k17 : Class := { plain "java/lang/Throwable" (some 0) with
  accessFlags := 33
  interfaces := #[2]
  cf := some (fileOf pool17 8 #[.nestMembers #[193, 93, 101, 269]] #[{ accessFlags := 1, nameIndex := 5, descriptorIndex := 6, attributes := #[] }] 33 2 #[318] #[{ accessFlags := 26, nameIndex := 320, descriptorIndex := 321, attributes := #[] }, { accessFlags := 130, nameIndex := 200, descriptorIndex := 201, attributes := #[] }, { accessFlags := 2, nameIndex := 33, descriptorIndex := 34, attributes := #[] }, { accessFlags := 26, nameIndex := 15, descriptorIndex := 16, attributes := #[] }, { accessFlags := 2, nameIndex := 11, descriptorIndex := 12, attributes := #[] }, { accessFlags := 2, nameIndex := 19, descriptorIndex := 16, attributes := #[] }, { accessFlags := 130, nameIndex := 211, descriptorIndex := 212, attributes := #[] }, { accessFlags := 26, nameIndex := 22, descriptorIndex := 23, attributes := #[] }, { accessFlags := 2, nameIndex := 26, descriptorIndex := 23, attributes := #[] }, { accessFlags := 26, nameIndex := 327, descriptorIndex := 34, attributes := #[] }, { accessFlags := 26, nameIndex := 328, descriptorIndex := 34, attributes := #[] }, { accessFlags := 26, nameIndex := 329, descriptorIndex := 34, attributes := #[] }, { accessFlags := 26, nameIndex := 330, descriptorIndex := 34, attributes := #[] }, { accessFlags := 26, nameIndex := 304, descriptorIndex := 305, attributes := #[] }, { accessFlags := 4120, nameIndex := 165, descriptorIndex := 166, attributes := #[] }])
  fields := #[{ name := "serialVersionUID", type := .long, accessFlags := 26, slot := 0, constantValue := 0 }, { name := "backtrace", type := (.object "java/lang/Object"), accessFlags := 130, slot := 0, constantValue := 0 }, { name := "detailMessage", type := (.object "java/lang/String"), accessFlags := 2, slot := 1, constantValue := 0 }, { name := "UNASSIGNED_STACK", type := (.array (.object "java/lang/StackTraceElement")), accessFlags := 26, slot := 1, constantValue := 0 }, { name := "cause", type := (.object "java/lang/Throwable"), accessFlags := 2, slot := 2, constantValue := 0 }, { name := "stackTrace", type := (.array (.object "java/lang/StackTraceElement")), accessFlags := 2, slot := 3, constantValue := 0 }, { name := "depth", type := .int, accessFlags := 130, slot := 4, constantValue := 0 }, { name := "SUPPRESSED_SENTINEL", type := (.object "java/util/List"), accessFlags := 26, slot := 2, constantValue := 0 }, { name := "suppressedExceptions", type := (.object "java/util/List"), accessFlags := 2, slot := 5, constantValue := 0 }, { name := "NULL_CAUSE_MESSAGE", type := (.object "java/lang/String"), accessFlags := 26, slot := 3, constantValue := 0 }, { name := "SELF_SUPPRESSION_MESSAGE", type := (.object "java/lang/String"), accessFlags := 26, slot := 4, constantValue := 0 }, { name := "CAUSE_CAPTION", type := (.object "java/lang/String"), accessFlags := 26, slot := 5, constantValue := 0 }, { name := "SUPPRESSED_CAPTION", type := (.object "java/lang/String"), accessFlags := 26, slot := 6, constantValue := 0 }, { name := "EMPTY_THROWABLE_ARRAY", type := (.array (.object "java/lang/Throwable")), accessFlags := 26, slot := 7, constantValue := 0 }, { name := "$assertionsDisabled", type := .boolean, accessFlags := 4120, slot := 8, constantValue := 0 }]
  methods := #[k17m0]
  instanceTypes := #[(.object "java/lang/Object"), (.object "java/lang/String"), (.object "java/lang/Throwable"), (.array (.object "java/lang/StackTraceElement")), .int, (.object "java/util/List")]
  staticTypes := #[.long, (.array (.object "java/lang/StackTraceElement")), (.object "java/util/List"), (.object "java/lang/String"), (.object "java/lang/String"), (.object "java/lang/String"), (.object "java/lang/String"), (.array (.object "java/lang/Throwable")), .boolean]
  resolved := Array.replicate 404 none
  statics := none }

def pool18 : Array CpInfo := pool [(2, .class_ 4), (1, u "java/lang/Throwable"), (0, u "<init>"), (0, u "()V"), (12, .class_ 20), (0, u "java/lang/Exception"), (0, u "serialVersionUID"), (0, u "J")] 17

def k18m0 : Method := { name := "<init>", desc := "()V", sig := { parameters := [], returnType := none }, accessFlags := 1, code := none }
/-- java/lang/Exception -/
def k18 : Class := { plain "java/lang/Exception" (some 17) with
  accessFlags := 33
  interfaces := #[]
  cf := some (fileOf pool18 19 #[] #[{ accessFlags := 1, nameIndex := 5, descriptorIndex := 6, attributes := #[] }] 33 2 #[] #[{ accessFlags := 24, nameIndex := 21, descriptorIndex := 22, attributes := #[] }])
  fields := #[{ name := "serialVersionUID", type := .long, accessFlags := 24, slot := 0, constantValue := 0 }]
  methods := #[k18m0]
  instanceTypes := #[(.object "java/lang/Object"), (.object "java/lang/String"), (.object "java/lang/Throwable"), (.array (.object "java/lang/StackTraceElement")), .int, (.object "java/util/List")]
  staticTypes := #[.long]
  resolved := Array.replicate 40 none
  statics := none }

def pool19 : Array CpInfo := pool [(2, .class_ 4), (1, u "com/example/precedence/precedence/MissingDependencyException"), (0, u "message"), (0, u "(Ljava/lang/String;Ljava/lang/String;)Ljava/lang/String;"), (1, .class_ 10), (1, u "java/lang/Exception"), (0, u "<init>"), (3, u "member"), (0, u "Ljava/lang/String;"), (2, u "dependency"), (0, .class_ 21), (0, u "java/lang/StringBuilder"), (0, .methodref 20 23), (0, .nameAndType 11 24), (0, u "()V"), (0, .string 26), (0, u "missing: "), (0, .methodref 20 28), (0, .nameAndType 29 30), (0, u "append"), (0, u "(Ljava/lang/String;)Ljava/lang/StringBuilder;"), (0, .string 32), (0, u " depends on "), (0, .methodref 20 34), (0, .nameAndType 35 36), (0, u "toString"), (0, u "()Ljava/lang/String;"), (0, u "serialVersionUID"), (0, u "J")] 8

def k19c0 : Code := { maxStack := 2, maxLocals := 2, code := prog_20_method_2_code, exceptionTable := #[], attributes := #[] }
def k19m0 : Method := { name := "message", desc := "(Ljava/lang/String;Ljava/lang/String;)Ljava/lang/String;", sig := { parameters := [(.object "java/lang/String"), (.object "java/lang/String")], returnType := some (.object "java/lang/String") }, accessFlags := 8, code := some k19c0 }
/-- com/example/precedence/precedence/MissingDependencyException -/
def k19 : Class := { plain "com/example/precedence/precedence/MissingDependencyException" (some 18) with
  accessFlags := 49
  interfaces := #[]
  cf := some (fileOf pool19 2 #[] #[{ accessFlags := 8, nameIndex := 5, descriptorIndex := 6, attributes := #[] }] 49 8 #[] #[{ accessFlags := 26, nameIndex := 37, descriptorIndex := 38, attributes := #[] }, { accessFlags := 18, nameIndex := 15, descriptorIndex := 16, attributes := #[] }, { accessFlags := 18, nameIndex := 19, descriptorIndex := 16, attributes := #[] }])
  fields := #[{ name := "serialVersionUID", type := .long, accessFlags := 26, slot := 0, constantValue := 0 }, { name := "member", type := (.object "java/lang/String"), accessFlags := 18, slot := 6, constantValue := 0 }, { name := "dependency", type := (.object "java/lang/String"), accessFlags := 18, slot := 7, constantValue := 0 }]
  methods := #[k19m0]
  instanceTypes := #[(.object "java/lang/Object"), (.object "java/lang/String"), (.object "java/lang/Throwable"), (.array (.object "java/lang/StackTraceElement")), .int, (.object "java/util/List"), (.object "java/lang/String"), (.object "java/lang/String")]
  staticTypes := #[.long]
  resolved := Array.replicate 47 none
  statics := none }

def pool20 : Array CpInfo := pool [(9, u "<init>"), (6, .class_ 18), (1, u "java/lang/Object"), (0, u "()V"), (1, .class_ 23), (1, u "jdk/internal/util/ArraysSupport"), (0, u "LOG2_ARRAY_LONG_INDEX_SCALE"), (0, u "I"), (2, u "U"), (0, u "Ljdk/internal/misc/Unsafe;"), (8, u "BIG_ENDIAN"), (0, u "Z"), (8, u "LOG2_BYTE_BIT_SIZE"), (4, u "LOG2_ARRAY_INT_INDEX_SCALE"), (54, u "JLA"), (0, u "Ljdk/internal/access/JavaLangAccess;"), (11, u "LOG2_ARRAY_BOOLEAN_INDEX_SCALE"), (9, u "LOG2_ARRAY_BYTE_INDEX_SCALE"), (5, u "LOG2_ARRAY_CHAR_INDEX_SCALE"), (5, u "LOG2_ARRAY_SHORT_INDEX_SCALE"), (18, u "LOG2_ARRAY_FLOAT_INDEX_SCALE"), (24, u "LOG2_ARRAY_DOUBLE_INDEX_SCALE"), (6, .methodref 195 196), (0, .class_ 197), (0, .nameAndType 198 199), (0, u "java/lang/Math"), (0, u "max"), (0, u "(II)I"), (0, .integer 2147483639), (76, u "T_BOOLEAN"), (2, u "T_CHAR"), (1, u "T_FLOAT"), (1, u "T_DOUBLE"), (1, u "T_BYTE"), (1, u "T_SHORT"), (1, u "T_INT"), (1, u "T_LONG"), (1, u "SOFT_MAX_ARRAY_LENGTH"), (56, u "newLength"), (0, u "(III)I")] 25

def k20m0 : Method := { name := "<init>", desc := "()V", sig := { parameters := [], returnType := none }, accessFlags := 2, code := none }
def k20c1 : Code := { maxStack := 3, maxLocals := 4, code := jdk_48_method_27_code, exceptionTable := #[], attributes := #[] }
def k20m1 : Method := { name := "newLength", desc := "(III)I", sig := { parameters := [.int, .int, .int], returnType := some .int }, accessFlags := 9, code := some k20c1 }
/-- jdk/internal/util/ArraysSupport -/
def k20 : Class := { plain "jdk/internal/util/ArraysSupport" (some 0) with
  accessFlags := 33
  interfaces := #[]
  cf := some (fileOf pool20 21 #[] #[{ accessFlags := 2, nameIndex := 9, descriptorIndex := 19, attributes := #[] }, { accessFlags := 9, nameIndex := 351, descriptorIndex := 352, attributes := #[] }] 33 16 #[] #[{ accessFlags := 24, nameIndex := 28, descriptorIndex := 29, attributes := #[] }, { accessFlags := 26, nameIndex := 38, descriptorIndex := 39, attributes := #[] }, { accessFlags := 25, nameIndex := 121, descriptorIndex := 25, attributes := #[] }, { accessFlags := 25, nameIndex := 131, descriptorIndex := 25, attributes := #[] }, { accessFlags := 25, nameIndex := 137, descriptorIndex := 25, attributes := #[] }, { accessFlags := 25, nameIndex := 143, descriptorIndex := 25, attributes := #[] }, { accessFlags := 25, nameIndex := 53, descriptorIndex := 25, attributes := #[] }, { accessFlags := 25, nameIndex := 24, descriptorIndex := 25, attributes := #[] }, { accessFlags := 25, nameIndex := 162, descriptorIndex := 25, attributes := #[] }, { accessFlags := 25, nameIndex := 187, descriptorIndex := 25, attributes := #[] }, { accessFlags := 26, nameIndex := 48, descriptorIndex := 25, attributes := #[] }, { accessFlags := 25, nameIndex := 277, descriptorIndex := 25, attributes := #[] }, { accessFlags := 25, nameIndex := 280, descriptorIndex := 25, attributes := #[] }, { accessFlags := 25, nameIndex := 282, descriptorIndex := 25, attributes := #[] }, { accessFlags := 25, nameIndex := 284, descriptorIndex := 25, attributes := #[] }, { accessFlags := 25, nameIndex := 286, descriptorIndex := 25, attributes := #[] }, { accessFlags := 25, nameIndex := 288, descriptorIndex := 25, attributes := #[] }, { accessFlags := 25, nameIndex := 290, descriptorIndex := 25, attributes := #[] }, { accessFlags := 25, nameIndex := 292, descriptorIndex := 25, attributes := #[] }, { accessFlags := 26, nameIndex := 108, descriptorIndex := 109, attributes := #[] }, { accessFlags := 25, nameIndex := 294, descriptorIndex := 25, attributes := #[] }])
  fields := #[{ name := "U", type := (.object "jdk/internal/misc/Unsafe"), accessFlags := 24, slot := 0, constantValue := 0 }, { name := "BIG_ENDIAN", type := .boolean, accessFlags := 26, slot := 1, constantValue := 0 }, { name := "LOG2_ARRAY_BOOLEAN_INDEX_SCALE", type := .int, accessFlags := 25, slot := 2, constantValue := 0 }, { name := "LOG2_ARRAY_BYTE_INDEX_SCALE", type := .int, accessFlags := 25, slot := 3, constantValue := 0 }, { name := "LOG2_ARRAY_CHAR_INDEX_SCALE", type := .int, accessFlags := 25, slot := 4, constantValue := 0 }, { name := "LOG2_ARRAY_SHORT_INDEX_SCALE", type := .int, accessFlags := 25, slot := 5, constantValue := 0 }, { name := "LOG2_ARRAY_INT_INDEX_SCALE", type := .int, accessFlags := 25, slot := 6, constantValue := 0 }, { name := "LOG2_ARRAY_LONG_INDEX_SCALE", type := .int, accessFlags := 25, slot := 7, constantValue := 0 }, { name := "LOG2_ARRAY_FLOAT_INDEX_SCALE", type := .int, accessFlags := 25, slot := 8, constantValue := 0 }, { name := "LOG2_ARRAY_DOUBLE_INDEX_SCALE", type := .int, accessFlags := 25, slot := 9, constantValue := 0 }, { name := "LOG2_BYTE_BIT_SIZE", type := .int, accessFlags := 26, slot := 10, constantValue := 0 }, { name := "T_BOOLEAN", type := .int, accessFlags := 25, slot := 11, constantValue := 0 }, { name := "T_CHAR", type := .int, accessFlags := 25, slot := 12, constantValue := 0 }, { name := "T_FLOAT", type := .int, accessFlags := 25, slot := 13, constantValue := 0 }, { name := "T_DOUBLE", type := .int, accessFlags := 25, slot := 14, constantValue := 0 }, { name := "T_BYTE", type := .int, accessFlags := 25, slot := 15, constantValue := 0 }, { name := "T_SHORT", type := .int, accessFlags := 25, slot := 16, constantValue := 0 }, { name := "T_INT", type := .int, accessFlags := 25, slot := 17, constantValue := 0 }, { name := "T_LONG", type := .int, accessFlags := 25, slot := 18, constantValue := 0 }, { name := "JLA", type := (.object "jdk/internal/access/JavaLangAccess"), accessFlags := 26, slot := 19, constantValue := 0 }, { name := "SOFT_MAX_ARRAY_LENGTH", type := .int, accessFlags := 25, slot := 20, constantValue := 0 }]
  methods := #[k20m0, k20m1]
  instanceTypes := #[]
  staticTypes := #[(.object "jdk/internal/misc/Unsafe"), .boolean, .int, .int, .int, .int, .int, .int, .int, .int, .int, .int, .int, .int, .int, .int, .int, .int, .int, (.object "jdk/internal/access/JavaLangAccess"), .int]
  resolved := Array.replicate 378 none
  statics := none }

def pool21 : Array CpInfo := pool [(1, .class_ 2), (0, u "java/lang/Math"), (1, .class_ 6), (1, u "java/lang/Object"), (0, u "<init>"), (0, u "()V"), (89, .class_ 100), (1, u "java/lang/Math$RandomNumberGeneratorHolder"), (71, u "negativeZeroFloatBits"), (0, u "J"), (2, u "negativeZeroDoubleBits"), (21, u "max"), (2, u "min"), (43, u "$assertionsDisabled"), (0, u "Z"), (88, u "(II)I"), (2, u "twoToTheDoubleScaleDown"), (0, u "D"), (4, u "twoToTheDoubleScaleUp"), (9, u "E"), (3, u "PI"), (2, u "TAU"), (2, u "DEGREES_TO_RADIANS"), (0, u "RADIANS_TO_DEGREES")] 94

def k21m0 : Method := { name := "<init>", desc := "()V", sig := { parameters := [], returnType := none }, accessFlags := 2, code := none }
def k21c1 : Code := { maxStack := 2, maxLocals := 2, code := jdk_29_method_65_code, exceptionTable := #[], attributes := #[] }
def k21m1 : Method := { name := "max", desc := "(II)I", sig := { parameters := [.int, .int], returnType := some .int }, accessFlags := 9, code := some k21c1 }
def k21c2 : Code := { maxStack := 2, maxLocals := 2, code := jdk_29_method_69_code, exceptionTable := #[], attributes := #[] }
def k21m2 : Method := { name := "min", desc := "(II)I", sig := { parameters := [.int, .int], returnType := some .int }, accessFlags := 9, code := some k21c2 }
/-- java/lang/Math -/
def k21 : Class := { plain "java/lang/Math" (some 0) with
  accessFlags := 49
  interfaces := #[]
  cf := some (fileOf pool21 1 #[.nestMembers #[98]] #[{ accessFlags := 2, nameIndex := 7, descriptorIndex := 8, attributes := #[] }, { accessFlags := 9, nameIndex := 198, descriptorIndex := 335, attributes := #[] }, { accessFlags := 9, nameIndex := 201, descriptorIndex := 335, attributes := #[] }] 49 4 #[] #[{ accessFlags := 25, nameIndex := 354, descriptorIndex := 339, attributes := #[] }, { accessFlags := 25, nameIndex := 358, descriptorIndex := 339, attributes := #[] }, { accessFlags := 25, nameIndex := 361, descriptorIndex := 339, attributes := #[] }, { accessFlags := 26, nameIndex := 364, descriptorIndex := 339, attributes := #[] }, { accessFlags := 26, nameIndex := 365, descriptorIndex := 339, attributes := #[] }, { accessFlags := 26, nameIndex := 172, descriptorIndex := 173, attributes := #[] }, { accessFlags := 26, nameIndex := 176, descriptorIndex := 173, attributes := #[] }, { accessFlags := 8, nameIndex := 344, descriptorIndex := 339, attributes := #[] }, { accessFlags := 8, nameIndex := 338, descriptorIndex := 339, attributes := #[] }, { accessFlags := 4120, nameIndex := 245, descriptorIndex := 246, attributes := #[] }])
  fields := #[{ name := "E", type := .double, accessFlags := 25, slot := 0, constantValue := 0 }, { name := "PI", type := .double, accessFlags := 25, slot := 1, constantValue := 0 }, { name := "TAU", type := .double, accessFlags := 25, slot := 2, constantValue := 0 }, { name := "DEGREES_TO_RADIANS", type := .double, accessFlags := 26, slot := 3, constantValue := 0 }, { name := "RADIANS_TO_DEGREES", type := .double, accessFlags := 26, slot := 4, constantValue := 0 }, { name := "negativeZeroFloatBits", type := .long, accessFlags := 26, slot := 5, constantValue := 0 }, { name := "negativeZeroDoubleBits", type := .long, accessFlags := 26, slot := 6, constantValue := 0 }, { name := "twoToTheDoubleScaleUp", type := .double, accessFlags := 8, slot := 7, constantValue := 0 }, { name := "twoToTheDoubleScaleDown", type := .double, accessFlags := 8, slot := 8, constantValue := 0 }, { name := "$assertionsDisabled", type := .boolean, accessFlags := 4120, slot := 9, constantValue := 0 }]
  methods := #[k21m0, k21m1, k21m2]
  instanceTypes := #[]
  staticTypes := #[.double, .double, .double, .double, .double, .long, .long, .double, .double, .boolean]
  resolved := Array.replicate 460 none
  statics := none }

def pool22 : Array CpInfo := pool [(2, .class_ 4), (1, u "java/lang/Object"), (0, u "<init>"), (0, u "()V"), (7, .class_ 16), (1, u "java/util/Arrays"), (57, .class_ 76), (1, u "java/util/Arrays$NaturalOrder"), (36, .class_ 115), (1, u "java/util/Arrays$LegacyMergeSort"), (1, u "Z"), (21, u "copyOfRange"), (10, .methodref 151 152), (0, .class_ 153), (0, .nameAndType 154 155), (0, u "java/lang/System"), (0, u "arraycopy"), (0, u "(Ljava/lang/Object;ILjava/lang/Object;II)V"), (146, u "copyOf"), (1, .methodref 305 306), (0, .class_ 307), (0, .nameAndType 308 309), (0, u "java/lang/Math"), (0, u "min"), (0, u "(II)I"), (29, .methodref 14 340), (0, .nameAndType 341 342), (0, u "copyOfRangeByte"), (0, u "([BII)[B"), (0, .methodref 14 344), (0, .nameAndType 345 346), (0, u "checkLength"), (0, u "(II)V"), (28, .class_ 376), (0, u "java/util/Arrays$ArrayList"), (68, u "$assertionsDisabled"), (269, u "MIN_ARRAY_SORT_GRAN"), (0, u "I"), (2, u "INSERTIONSORT_THRESHOLD"), (149, u "([BI)[B"), (105, .class_ 976), (0, u "java/util/Arrays$ArrayItr")] 52

def k22m0 : Method := { name := "<init>", desc := "()V", sig := { parameters := [], returnType := none }, accessFlags := 2, code := none }
def k22c1 : Code := { maxStack := 6, maxLocals := 3, code := jdk_65_method_121_code, exceptionTable := #[], attributes := #[] }
def k22m1 : Method := { name := "copyOf", desc := "([BI)[B", sig := { parameters := [(.array .byte), .int], returnType := some (.array .byte) }, accessFlags := 9, code := some k22c1 }
def k22c2 : Code := { maxStack := 4, maxLocals := 2, code := jdk_65_method_131_code, exceptionTable := #[], attributes := #[] }
def k22m2 : Method := { name := "checkLength", desc := "(II)V", sig := { parameters := [.int, .int], returnType := none }, accessFlags := 10, code := some k22c2 }
def k22c3 : Code := { maxStack := 3, maxLocals := 3, code := jdk_65_method_132_code, exceptionTable := #[], attributes := #[] }
def k22m3 : Method := { name := "copyOfRange", desc := "([BII)[B", sig := { parameters := [(.array .byte), .int, .int], returnType := some (.array .byte) }, accessFlags := 9, code := some k22c3 }
def k22c4 : Code := { maxStack := 6, maxLocals := 5, code := jdk_65_method_133_code, exceptionTable := #[], attributes := #[] }
def k22m4 : Method := { name := "copyOfRangeByte", desc := "([BII)[B", sig := { parameters := [(.array .byte), .int, .int], returnType := some (.array .byte) }, accessFlags := 10, code := some k22c4 }
/-- java/util/Arrays -/
def k22 : Class := { plain "java/util/Arrays" (some 0) with
  accessFlags := 49
  interfaces := #[]
  cf := some (fileOf pool22 14 #[.nestMembers #[975, 375, 113, 74]] #[{ accessFlags := 2, nameIndex := 5, descriptorIndex := 6, attributes := #[] }, { accessFlags := 9, nameIndex := 302, descriptorIndex := 869, attributes := #[] }, { accessFlags := 10, nameIndex := 345, descriptorIndex := 346, attributes := #[] }, { accessFlags := 9, nameIndex := 139, descriptorIndex := 342, attributes := #[] }, { accessFlags := 10, nameIndex := 341, descriptorIndex := 342, attributes := #[] }] 49 2 #[] #[{ accessFlags := 26, nameIndex := 715, descriptorIndex := 716, attributes := #[] }, { accessFlags := 26, nameIndex := 719, descriptorIndex := 716, attributes := #[] }, { accessFlags := 4120, nameIndex := 445, descriptorIndex := 117, attributes := #[] }])
  fields := #[{ name := "MIN_ARRAY_SORT_GRAN", type := .int, accessFlags := 26, slot := 0, constantValue := 0 }, { name := "INSERTIONSORT_THRESHOLD", type := .int, accessFlags := 26, slot := 1, constantValue := 0 }, { name := "$assertionsDisabled", type := .boolean, accessFlags := 4120, slot := 2, constantValue := 0 }]
  methods := #[k22m0, k22m1, k22m2, k22m3, k22m4]
  instanceTypes := #[]
  staticTypes := #[.int, .int, .boolean]
  resolved := Array.replicate 1029 none
  statics := none }

def pool23 : Array CpInfo := pool [(4, .class_ 6), (1, u "java/lang/Object"), (0, u "<init>"), (0, u "()V"), (5, .class_ 16), (1, u "java/lang/StringLatin1"), (104, u "$assertionsDisabled"), (0, u "Z"), (98, .class_ 223), (1, u "java/lang/StringLatin1$LinesSpliterator"), (57, u "equals"), (0, u "([B[B)Z"), (107, .class_ 391), (0, u "java/lang/StringLatin1$CharsSpliterator")] 3

def k23m0 : Method := { name := "<init>", desc := "()V", sig := { parameters := [], returnType := none }, accessFlags := 0, code := none }
def k23c1 : Code := { maxStack := 3, maxLocals := 3, code := jdk_43_method_13_code, exceptionTable := #[], attributes := #[] }
def k23m1 : Method := { name := "equals", desc := "([B[B)Z", sig := { parameters := [(.array .byte), (.array .byte)], returnType := some .boolean }, accessFlags := 9, code := some k23c1 }
/-- java/lang/StringLatin1 -/
def k23 : Class := { plain "java/lang/StringLatin1" (some 0) with
  accessFlags := 48
  interfaces := #[]
  cf := some (fileOf pool23 14 #[.nestMembers #[390, 221]] #[{ accessFlags := 0, nameIndex := 7, descriptorIndex := 8, attributes := #[] }, { accessFlags := 9, nameIndex := 281, descriptorIndex := 282, attributes := #[] }] 48 4 #[] #[{ accessFlags := 4120, nameIndex := 121, descriptorIndex := 122, attributes := #[] }])
  fields := #[{ name := "$assertionsDisabled", type := .boolean, accessFlags := 4120, slot := 0, constantValue := 0 }]
  methods := #[k23m0, k23m1]
  instanceTypes := #[]
  staticTypes := #[.boolean]
  resolved := Array.replicate 395 none
  statics := none }

def pool24 : Array CpInfo := pool [(2, .class_ 4), (1, u "java/lang/Object"), (0, u "<init>"), (0, u "()V"), (17, .class_ 26), (1, u "jdk/internal/util/Preconditions"), (28, .class_ 56), (0, u "jdk/internal/util/Preconditions$4"), (57, .class_ 115), (0, u "jdk/internal/util/Preconditions$1"), (7, u "SIOOBE_FORMATTER"), (0, u "Ljava/util/function/BiFunction;"), (0, .class_ 126), (0, u "jdk/internal/util/Preconditions$2"), (3, u "AIOOBE_FORMATTER"), (0, .class_ 132), (0, u "jdk/internal/util/Preconditions$3"), (3, u "IOOBE_FORMATTER")] 57

def k24m0 : Method := { name := "<init>", desc := "()V", sig := { parameters := [], returnType := none }, accessFlags := 1, code := none }
/-- jdk/internal/util/Preconditions -/
def k24 : Class := { plain "jdk/internal/util/Preconditions" (some 0) with
  accessFlags := 33
  interfaces := #[]
  cf := some (fileOf pool24 24 #[.nestMembers #[55, 131, 125, 114]] #[{ accessFlags := 1, nameIndex := 5, descriptorIndex := 6, attributes := #[] }] 33 2 #[] #[{ accessFlags := 25, nameIndex := 123, descriptorIndex := 124, attributes := #[] }, { accessFlags := 25, nameIndex := 130, descriptorIndex := 124, attributes := #[] }, { accessFlags := 25, nameIndex := 136, descriptorIndex := 124, attributes := #[] }])
  fields := #[{ name := "SIOOBE_FORMATTER", type := (.object "java/util/function/BiFunction"), accessFlags := 25, slot := 0, constantValue := 0 }, { name := "AIOOBE_FORMATTER", type := (.object "java/util/function/BiFunction"), accessFlags := 25, slot := 1, constantValue := 0 }, { name := "IOOBE_FORMATTER", type := (.object "java/util/function/BiFunction"), accessFlags := 25, slot := 2, constantValue := 0 }]
  methods := #[k24m0]
  instanceTypes := #[]
  staticTypes := #[(.object "java/util/function/BiFunction"), (.object "java/util/function/BiFunction"), (.object "java/util/function/BiFunction")]
  resolved := Array.replicate 194 none
  statics := some 1 }

def pool25 : Array CpInfo := pool [(1, u "java/lang/Cloneable"), (0, .class_ 1), (0, u "java/lang/Object"), (0, .class_ 3)] 3

/-- java/lang/Cloneable -/
def k25 : Class := { plain "java/lang/Cloneable" (some 0) with
  accessFlags := 1537
  interfaces := #[]
  cf := some (fileOf pool25 2 #[] #[] 1537 4 #[] #[])
  fields := #[]
  methods := #[]
  instanceTypes := #[]
  staticTypes := #[]
  resolved := Array.replicate 8 none
  statics := none }

/-- the primitive byte -/
def k26 : Class := { plain "byte" none with kind := .primitive 'B', accessFlags := 0x411 }
/-- [B -/
def k27 : Class := { plain "[B" (some 0) with kind := .array 26 .byte, interfaces := #[25, 2], accessFlags := 1041 }

/-- the primitive char -/
def k28 : Class := { plain "char" none with kind := .primitive 'C', accessFlags := 0x411 }
/-- [C -/
def k29 : Class := { plain "[C" (some 0) with kind := .array 28 .char, interfaces := #[25, 2], accessFlags := 1041 }

/-- the primitive int -/
def k30 : Class := { plain "int" none with kind := .primitive 'I', accessFlags := 0x411 }
/-- [I -/
def k31 : Class := { plain "[I" (some 0) with kind := .array 30 .int, interfaces := #[25, 2], accessFlags := 1041 }

def heap : Heap := #[{ cls := 7, slots := #[.long 0, .int 1, .null, .int 0, .null, .int 0, .int 0], vm := .statics 7 },
  { cls := 24, slots := #[.null, .null, .null], vm := .statics 24 }]
def classes : Array Class := #[k0, k1, k2, k3, k4, k5, k6, k7, k8, k9, k10, k11, k12, k13, k14, k15, k16, k17, k18, k19, k20, k21, k22, k23, k24, k25, k26, k27, k28, k29, k30, k31]
def interned : List (Array UInt16 × Addr) := []
def slotsUsed : Nat := 10
def theMethod : MethodId := ⟨1, 1⟩
def args0 : Array Value := #[.int 5, .int 5, .int 5]
def aboutOver (below : List Frame) : State where
  vm := { classes := classes, interned := interned.toArray }
  heap := heap
  slotsUsed := slotsUsed
  threads := #[{ frames := .invoking theMethod args0 :: below }]
def below0 : List Frame := [.native { method := ⟨0, 0⟩, args := #[] }]
def about1 : State := aboutOver below0
def p0 : Program := .bare "" "" ""
def e0 : Env := launch0.env 0 0 0
theorem w_frames : about1.frames = Frame.invoking theMethod args0 :: below0 := rfl
set_option maxRecDepth 65536 in
theorem w_args : argsFit about1.vm theMethod args0 = true := by decide +kernel
set_option maxRecDepth 65536 in
theorem w_heap : heapFits about1 = true := by decide +kernel
set_option maxRecDepth 65536 in
theorem w_runnable : about1.curStatus? = some .runnable := by decide +kernel
set_option maxRecDepth 65536 in
theorem w_alone : about1.alone = true := by decide +kernel
set_option maxRecDepth 65536 in
theorem w_named : about1.methodNamed? x = some theMethod := by decide +kernel
set_option maxRecDepth 65536 in
theorem w_hears : about1.hears theMethod below0 = true := by decide +kernel
set_option maxRecDepth 65536 in
theorem w_ripe : about1.ripe theMethod args0 below0 = true := by decide +kernel
theorem w_running : about1.status = .running := rfl
set_option maxRecDepth 65536 in
theorem w_room : about1.hasRoom e0.platform room_1 = true :=
  launch0.hasRoom_least _ room_1 (by decide +kernel) (by decide +kernel) (by decide +kernel) (by decide +kernel) (by decide +kernel) (by decide +kernel)
theorem allAtoms_all (ts : List Jvm.Cond) (a : Array Jvm.Value) (st : Jvm.State) : (allAtoms ts).before a st = ts.all (fun c => c.before a st) := by
  induction ts with
  | nil => rfl
  | cons c t ih =>
    show (Jvm.Cond.and c (allAtoms t)).before a st = _
    rw [Jvm.Cond.before_and, ih, List.all_cons]
def words1 : List Jvm.Cond := Jvm.Cond.code x code maxLocals ret :: tables_1
/-- a 'code' word, met by the world's own term for the bytes: nothing is compared byte by byte -/
theorem code_word {y : MethodName} {bytes : ByteArray} {mx : Nat} {rt : Option FieldType} {a : Array Value} {s : State} {m : MethodId} {meth : Method} {c : Code} (h1 : s.methodNamed? y = some m) (h2 : s.vm.method? m = some meth) (h3 : meth.code = some c) (h4 : c.code = bytes)
    (h5 : (c.maxLocals == mx && c.exceptionTable.isEmpty && decide (c.maxStack ≤ mostOperands) && decide (meth.sig.returnType = rt) && !meth.locks && decide (parseMethodDescriptor y.desc = some meth.sig)) = true) : (Jvm.Cond.code y bytes mx rt).before a s = true := by
  simp only [Bool.and_eq_true, beq_iff_eq, Bool.not_eq_true', decide_eq_true_eq] at h5
  obtain ⟨⟨⟨⟨⟨g1, g2⟩, g3⟩, g4⟩, g5⟩, g6⟩ := h5
  simp [Cond.before, Cond.holds, Cond.value, h1, h2, h3, h4, g1, g2, g3, g4, g5, g6]
def isCode : Jvm.Cond → Bool
  | .code _ _ _ _ => true
  | _ => false
theorem all_split {L : List Jvm.Cond} {P : Jvm.Cond → Bool} (h1 : L.all (fun c => isCode c || P c) = true) (h2 : ∀ c ∈ L.filter isCode, P c = true) : L.all P = true := by
  refine List.all_eq_true.mpr fun c hc => ?_
  have h := List.all_eq_true.mp h1 c hc
  rcases Bool.eq_false_or_eq_true (isCode c) with hi | hi
  · exact h2 c (List.mem_filter.mpr ⟨hc, hi⟩)
  · simpa [hi] using h
set_option maxRecDepth 65536 in
theorem w_c0 : (Jvm.Cond.code x code maxLocals ret).before args0 about1 = true := code_word (m := ⟨1, 1⟩) (meth := k1m1) (c := k1c1) (by decide +kernel) rfl rfl rfl (by decide +kernel)
set_option maxRecDepth 65536 in
theorem w_c1 : (Jvm.Cond.code ({ cls := "java/lang/String", name := "<init>", desc := "([C)V" } : Jvm.MethodName) jdk_42_method_3_code (2 : Nat) (Option.none : Option Jvm.ClassFile.FieldType)).before args0 about1 = true := code_word (m := ⟨7, 1⟩) (meth := k7m1) (c := k7c1) (by decide +kernel) rfl rfl rfl (by decide +kernel)
set_option maxRecDepth 65536 in
theorem w_c2 : (Jvm.Cond.code ({ cls := "java/lang/String", name := "<init>", desc := "([CIILjava/lang/Void;)V" } : Jvm.MethodName) jdk_42_method_149_code (6 : Nat) (Option.none : Option Jvm.ClassFile.FieldType)).before args0 about1 = true := code_word (m := ⟨7, 6⟩) (meth := k7m6) (c := k7c6) (by decide +kernel) rfl rfl rfl (by decide +kernel)
set_option maxRecDepth 65536 in
theorem w_c3 : (Jvm.Cond.code ({ cls := "java/lang/Object", name := "<init>", desc := "()V" } : Jvm.MethodName) object_method_1_code (1 : Nat) (Option.none : Option Jvm.ClassFile.FieldType)).before args0 about1 = true := code_word (m := ⟨0, 0⟩) (meth := k0m0) (c := k0c0) (by decide +kernel) rfl rfl rfl (by decide +kernel)
set_option maxRecDepth 65536 in
theorem w_c4 : (Jvm.Cond.code ({ cls := "java/lang/StringUTF16", name := "compress", desc := "([CII)[B" } : Jvm.MethodName) jdk_52_method_16_code (6 : Nat) (Option.some (Jvm.ClassFile.FieldType.array Jvm.ClassFile.FieldType.byte))).before args0 about1 = true := code_word (m := ⟨8, 2⟩) (meth := k8m2) (c := k8c2) (by decide +kernel) rfl rfl rfl (by decide +kernel)
set_option maxRecDepth 65536 in
theorem w_c5 : (Jvm.Cond.code ({ cls := "java/lang/StringUTF16", name := "compress", desc := "([CI[BII)I" } : Jvm.MethodName) jdk_52_method_21_code (7 : Nat) (Option.some Jvm.ClassFile.FieldType.int)).before args0 about1 = true := code_word (m := ⟨8, 3⟩) (meth := k8m3) (c := k8c3) (by decide +kernel) rfl rfl rfl (by decide +kernel)
set_option maxRecDepth 65536 in
theorem w_c6 : (Jvm.Cond.code ({ cls := "java/lang/StringUTF16", name := "coderFromArrayLen", desc := "([BI)B" } : Jvm.MethodName) jdk_52_method_15_code (2 : Nat) (Option.some Jvm.ClassFile.FieldType.byte)).before args0 about1 = true := code_word (m := ⟨8, 1⟩) (meth := k8m1) (c := k8c1) (by decide +kernel) rfl rfl rfl (by decide +kernel)
set_option maxRecDepth 65536 in
theorem w_c7 : (Jvm.Cond.code ({ cls := "com/example/precedence/precedence/MissingLinePinLaw", name := "expected", desc := "(ZZCCCC)[C" } : Jvm.MethodName) method_3_code (6 : Nat) (Option.some (Jvm.ClassFile.FieldType.array Jvm.ClassFile.FieldType.char))).before args0 about1 = true := code_word (m := ⟨1, 2⟩) (meth := k1m2) (c := k1c2) (by decide +kernel) rfl rfl rfl (by decide +kernel)
set_option maxRecDepth 65536 in
theorem w_c8 : (Jvm.Cond.code ({ cls := "com/example/precedence/precedence/Problem$Missing", name := "<init>", desc := "(Ljava/lang/String;Ljava/lang/String;)V" } : Jvm.MethodName) prog_29_method_1_code (3 : Nat) (Option.none : Option Jvm.ClassFile.FieldType)).before args0 about1 = true := code_word (m := ⟨11, 0⟩) (meth := k11m0) (c := k11c0) (by decide +kernel) rfl rfl rfl (by decide +kernel)
set_option maxRecDepth 65536 in
theorem w_c9 : (Jvm.Cond.code ({ cls := "java/lang/Record", name := "<init>", desc := "()V" } : Jvm.MethodName) jdk_30_method_1_code (1 : Nat) (Option.none : Option Jvm.ClassFile.FieldType)).before args0 about1 = true := code_word (m := ⟨9, 0⟩) (meth := k9m0) (c := k9c0) (by decide +kernel) rfl rfl rfl (by decide +kernel)
set_option maxRecDepth 65536 in
theorem w_c10 : (Jvm.Cond.code ({ cls := "java/util/Objects", name := "requireNonNull", desc := "(Ljava/lang/Object;Ljava/lang/String;)Ljava/lang/Object;" } : Jvm.MethodName) jdk_31_method_11_code (2 : Nat) (Option.some (Jvm.ClassFile.FieldType.object "java/lang/Object"))).before args0 about1 = true := code_word (m := ⟨12, 1⟩) (meth := k12m1) (c := k12c1) (by decide +kernel) rfl rfl rfl (by decide +kernel)
set_option maxRecDepth 65536 in
theorem w_c11 : (Jvm.Cond.code ({ cls := "com/example/precedence/precedence/Problem$Missing", name := "line", desc := "()Ljava/lang/String;" } : Jvm.MethodName) prog_29_method_3_code (1 : Nat) (Option.some (Jvm.ClassFile.FieldType.object "java/lang/String"))).before args0 about1 = true := code_word (m := ⟨11, 1⟩) (meth := k11m1) (c := k11c1) (by decide +kernel) rfl rfl rfl (by decide +kernel)
set_option maxRecDepth 65536 in
theorem w_c12 : (Jvm.Cond.code ({ cls := "java/lang/StringBuilder", name := "<init>", desc := "()V" } : Jvm.MethodName) jdk_67_method_1_code (1 : Nat) (Option.none : Option Jvm.ClassFile.FieldType)).before args0 about1 = true := code_word (m := ⟨15, 0⟩) (meth := k15m0) (c := k15c0) (by decide +kernel) rfl rfl rfl (by decide +kernel)
set_option maxRecDepth 65536 in
theorem w_c13 : (Jvm.Cond.code ({ cls := "java/lang/AbstractStringBuilder", name := "<init>", desc := "(I)V" } : Jvm.MethodName) jdk_68_method_2_code (2 : Nat) (Option.none : Option Jvm.ClassFile.FieldType)).before args0 about1 = true := code_word (m := ⟨14, 1⟩) (meth := k14m1) (c := k14c1) (by decide +kernel) rfl rfl rfl (by decide +kernel)
set_option maxRecDepth 65536 in
theorem w_c14 : (Jvm.Cond.code ({ cls := "java/lang/StringBuilder", name := "append", desc := "(Ljava/lang/String;)Ljava/lang/StringBuilder;" } : Jvm.MethodName) jdk_67_method_7_code (2 : Nat) (Option.some (Jvm.ClassFile.FieldType.object "java/lang/StringBuilder"))).before args0 about1 = true := code_word (m := ⟨15, 1⟩) (meth := k15m1) (c := k15c1) (by decide +kernel) rfl rfl rfl (by decide +kernel)
set_option maxRecDepth 65536 in
theorem w_c15 : (Jvm.Cond.code ({ cls := "java/lang/AbstractStringBuilder", name := "append", desc := "(Ljava/lang/String;)Ljava/lang/AbstractStringBuilder;" } : Jvm.MethodName) jdk_68_method_22_code (3 : Nat) (Option.some (Jvm.ClassFile.FieldType.object "java/lang/AbstractStringBuilder"))).before args0 about1 = true := code_word (m := ⟨14, 5⟩) (meth := k14m5) (c := k14c5) (by decide +kernel) rfl rfl rfl (by decide +kernel)
set_option maxRecDepth 65536 in
theorem w_c16 : (Jvm.Cond.code ({ cls := "java/lang/String", name := "length", desc := "()I" } : Jvm.MethodName) jdk_42_method_54_code (1 : Nat) (Option.some Jvm.ClassFile.FieldType.int)).before args0 about1 = true := code_word (m := ⟨7, 3⟩) (meth := k7m3) (c := k7c3) (by decide +kernel) rfl rfl rfl (by decide +kernel)
set_option maxRecDepth 65536 in
theorem w_c17 : (Jvm.Cond.code ({ cls := "java/lang/String", name := "coder", desc := "()B" } : Jvm.MethodName) jdk_42_method_152_code (1 : Nat) (Option.some Jvm.ClassFile.FieldType.byte)).before args0 about1 = true := code_word (m := ⟨7, 8⟩) (meth := k7m8) (c := k7c8) (by decide +kernel) rfl rfl rfl (by decide +kernel)
set_option maxRecDepth 65536 in
theorem w_c18 : (Jvm.Cond.code ({ cls := "java/lang/AbstractStringBuilder", name := "ensureCapacityInternal", desc := "(I)V" } : Jvm.MethodName) jdk_68_method_9_code (3 : Nat) (Option.none : Option Jvm.ClassFile.FieldType)).before args0 about1 = true := code_word (m := ⟨14, 3⟩) (meth := k14m3) (c := k14c3) (by decide +kernel) rfl rfl rfl (by decide +kernel)
set_option maxRecDepth 65536 in
theorem w_c19 : (Jvm.Cond.code ({ cls := "java/lang/AbstractStringBuilder", name := "putStringAt", desc := "(ILjava/lang/String;)V" } : Jvm.MethodName) jdk_68_method_73_code (3 : Nat) (Option.none : Option Jvm.ClassFile.FieldType)).before args0 about1 = true := code_word (m := ⟨14, 9⟩) (meth := k14m9) (c := k14c9) (by decide +kernel) rfl rfl rfl (by decide +kernel)
set_option maxRecDepth 65536 in
theorem w_c20 : (Jvm.Cond.code ({ cls := "java/lang/AbstractStringBuilder", name := "inflateIfNeededFor", desc := "(Ljava/lang/String;)V" } : Jvm.MethodName) jdk_68_method_71_code (2 : Nat) (Option.none : Option Jvm.ClassFile.FieldType)).before args0 about1 = true := code_word (m := ⟨14, 8⟩) (meth := k14m8) (c := k14c8) (by decide +kernel) rfl rfl rfl (by decide +kernel)
set_option maxRecDepth 65536 in
theorem w_c21 : (Jvm.Cond.code ({ cls := "java/lang/String", name := "getBytes", desc := "([BIB)V" } : Jvm.MethodName) jdk_42_method_147_code (4 : Nat) (Option.none : Option Jvm.ClassFile.FieldType)).before args0 about1 = true := code_word (m := ⟨7, 5⟩) (meth := k7m5) (c := k7c5) (by decide +kernel) rfl rfl rfl (by decide +kernel)
set_option maxRecDepth 65536 in
theorem w_c22 : (Jvm.Cond.code ({ cls := "com/example/precedence/precedence/MissingDependencyException", name := "message", desc := "(Ljava/lang/String;Ljava/lang/String;)Ljava/lang/String;" } : Jvm.MethodName) prog_20_method_2_code (2 : Nat) (Option.some (Jvm.ClassFile.FieldType.object "java/lang/String"))).before args0 about1 = true := code_word (m := ⟨19, 0⟩) (meth := k19m0) (c := k19c0) (by decide +kernel) rfl rfl rfl (by decide +kernel)
set_option maxRecDepth 65536 in
theorem w_c23 : (Jvm.Cond.code ({ cls := "java/lang/AbstractStringBuilder", name := "newCapacity", desc := "(I)I" } : Jvm.MethodName) jdk_68_method_10_code (6 : Nat) (Option.some Jvm.ClassFile.FieldType.int)).before args0 about1 = true := code_word (m := ⟨14, 4⟩) (meth := k14m4) (c := k14c4) (by decide +kernel) rfl rfl rfl (by decide +kernel)
set_option maxRecDepth 65536 in
theorem w_c24 : (Jvm.Cond.code ({ cls := "jdk/internal/util/ArraysSupport", name := "newLength", desc := "(III)I" } : Jvm.MethodName) jdk_48_method_27_code (4 : Nat) (Option.some Jvm.ClassFile.FieldType.int)).before args0 about1 = true := code_word (m := ⟨20, 1⟩) (meth := k20m1) (c := k20c1) (by decide +kernel) rfl rfl rfl (by decide +kernel)
set_option maxRecDepth 65536 in
theorem w_c25 : (Jvm.Cond.code ({ cls := "java/lang/Math", name := "max", desc := "(II)I" } : Jvm.MethodName) jdk_29_method_65_code (2 : Nat) (Option.some Jvm.ClassFile.FieldType.int)).before args0 about1 = true := code_word (m := ⟨21, 1⟩) (meth := k21m1) (c := k21c1) (by decide +kernel) rfl rfl rfl (by decide +kernel)
set_option maxRecDepth 65536 in
theorem w_c26 : (Jvm.Cond.code ({ cls := "java/util/Arrays", name := "copyOf", desc := "([BI)[B" } : Jvm.MethodName) jdk_65_method_121_code (3 : Nat) (Option.some (Jvm.ClassFile.FieldType.array Jvm.ClassFile.FieldType.byte))).before args0 about1 = true := code_word (m := ⟨22, 1⟩) (meth := k22m1) (c := k22c1) (by decide +kernel) rfl rfl rfl (by decide +kernel)
set_option maxRecDepth 65536 in
theorem w_c27 : (Jvm.Cond.code ({ cls := "java/lang/Math", name := "min", desc := "(II)I" } : Jvm.MethodName) jdk_29_method_69_code (2 : Nat) (Option.some Jvm.ClassFile.FieldType.int)).before args0 about1 = true := code_word (m := ⟨21, 2⟩) (meth := k21m2) (c := k21c2) (by decide +kernel) rfl rfl rfl (by decide +kernel)
set_option maxRecDepth 65536 in
theorem w_c28 : (Jvm.Cond.code ({ cls := "java/lang/StringBuilder", name := "toString", desc := "()Ljava/lang/String;" } : Jvm.MethodName) jdk_67_method_42_code (1 : Nat) (Option.some (Jvm.ClassFile.FieldType.object "java/lang/String"))).before args0 about1 = true := code_word (m := ⟨15, 2⟩) (meth := k15m2) (c := k15c2) (by decide +kernel) rfl rfl rfl (by decide +kernel)
set_option maxRecDepth 65536 in
theorem w_c29 : (Jvm.Cond.code ({ cls := "java/lang/String", name := "<init>", desc := "(Ljava/lang/StringBuilder;)V" } : Jvm.MethodName) jdk_42_method_53_code (2 : Nat) (Option.none : Option Jvm.ClassFile.FieldType)).before args0 about1 = true := code_word (m := ⟨7, 2⟩) (meth := k7m2) (c := k7c2) (by decide +kernel) rfl rfl rfl (by decide +kernel)
set_option maxRecDepth 65536 in
theorem w_c30 : (Jvm.Cond.code ({ cls := "java/lang/String", name := "<init>", desc := "(Ljava/lang/AbstractStringBuilder;Ljava/lang/Void;)V" } : Jvm.MethodName) jdk_42_method_150_code (5 : Nat) (Option.none : Option Jvm.ClassFile.FieldType)).before args0 about1 = true := code_word (m := ⟨7, 7⟩) (meth := k7m7) (c := k7c7) (by decide +kernel) rfl rfl rfl (by decide +kernel)
set_option maxRecDepth 65536 in
theorem w_c31 : (Jvm.Cond.code ({ cls := "java/lang/AbstractStringBuilder", name := "getValue", desc := "()[B" } : Jvm.MethodName) jdk_68_method_64_code (1 : Nat) (Option.some (Jvm.ClassFile.FieldType.array Jvm.ClassFile.FieldType.byte))).before args0 about1 = true := code_word (m := ⟨14, 6⟩) (meth := k14m6) (c := k14c6) (by decide +kernel) rfl rfl rfl (by decide +kernel)
set_option maxRecDepth 65536 in
theorem w_c32 : (Jvm.Cond.code ({ cls := "java/lang/StringBuilder", name := "length", desc := "()I" } : Jvm.MethodName) jdk_67_method_93_code (1 : Nat) (Option.some Jvm.ClassFile.FieldType.int)).before args0 about1 = true := code_word (m := ⟨15, 3⟩) (meth := k15m3) (c := k15c3) (by decide +kernel) rfl rfl rfl (by decide +kernel)
set_option maxRecDepth 65536 in
theorem w_c33 : (Jvm.Cond.code ({ cls := "java/lang/AbstractStringBuilder", name := "length", desc := "()I" } : Jvm.MethodName) jdk_68_method_6_code (1 : Nat) (Option.some Jvm.ClassFile.FieldType.int)).before args0 about1 = true := code_word (m := ⟨14, 2⟩) (meth := k14m2) (c := k14c2) (by decide +kernel) rfl rfl rfl (by decide +kernel)
set_option maxRecDepth 65536 in
theorem w_c34 : (Jvm.Cond.code ({ cls := "java/lang/AbstractStringBuilder", name := "isLatin1", desc := "()Z" } : Jvm.MethodName) jdk_68_method_68_code (1 : Nat) (Option.some Jvm.ClassFile.FieldType.boolean)).before args0 about1 = true := code_word (m := ⟨14, 7⟩) (meth := k14m7) (c := k14c7) (by decide +kernel) rfl rfl rfl (by decide +kernel)
set_option maxRecDepth 65536 in
theorem w_c35 : (Jvm.Cond.code ({ cls := "java/util/Arrays", name := "copyOfRange", desc := "([BII)[B" } : Jvm.MethodName) jdk_65_method_132_code (3 : Nat) (Option.some (Jvm.ClassFile.FieldType.array Jvm.ClassFile.FieldType.byte))).before args0 about1 = true := code_word (m := ⟨22, 3⟩) (meth := k22m3) (c := k22c3) (by decide +kernel) rfl rfl rfl (by decide +kernel)
set_option maxRecDepth 65536 in
theorem w_c36 : (Jvm.Cond.code ({ cls := "java/util/Arrays", name := "copyOfRangeByte", desc := "([BII)[B" } : Jvm.MethodName) jdk_65_method_133_code (5 : Nat) (Option.some (Jvm.ClassFile.FieldType.array Jvm.ClassFile.FieldType.byte))).before args0 about1 = true := code_word (m := ⟨22, 4⟩) (meth := k22m4) (c := k22c4) (by decide +kernel) rfl rfl rfl (by decide +kernel)
set_option maxRecDepth 65536 in
theorem w_c37 : (Jvm.Cond.code ({ cls := "java/util/Arrays", name := "checkLength", desc := "(II)V" } : Jvm.MethodName) jdk_65_method_131_code (2 : Nat) (Option.none : Option Jvm.ClassFile.FieldType)).before args0 about1 = true := code_word (m := ⟨22, 2⟩) (meth := k22m2) (c := k22c2) (by decide +kernel) rfl rfl rfl (by decide +kernel)
set_option maxRecDepth 65536 in
theorem w_c38 : (Jvm.Cond.code ({ cls := "java/lang/String", name := "equals", desc := "(Ljava/lang/Object;)Z" } : Jvm.MethodName) jdk_42_method_66_code (3 : Nat) (Option.some Jvm.ClassFile.FieldType.boolean)).before args0 about1 = true := code_word (m := ⟨7, 4⟩) (meth := k7m4) (c := k7c4) (by decide +kernel) rfl rfl rfl (by decide +kernel)
set_option maxRecDepth 65536 in
theorem w_c39 : (Jvm.Cond.code ({ cls := "java/lang/StringLatin1", name := "equals", desc := "([B[B)Z" } : Jvm.MethodName) jdk_43_method_13_code (3 : Nat) (Option.some Jvm.ClassFile.FieldType.boolean)).before args0 about1 = true := code_word (m := ⟨23, 1⟩) (meth := k23m1) (c := k23c1) (by decide +kernel) rfl rfl rfl (by decide +kernel)
def codes1 : List Jvm.Cond := [Jvm.Cond.code x code maxLocals ret, Jvm.Cond.code ({ cls := "java/lang/String", name := "<init>", desc := "([C)V" } : Jvm.MethodName) jdk_42_method_3_code (2 : Nat) (Option.none : Option Jvm.ClassFile.FieldType), Jvm.Cond.code ({ cls := "java/lang/String", name := "<init>", desc := "([CIILjava/lang/Void;)V" } : Jvm.MethodName) jdk_42_method_149_code (6 : Nat) (Option.none : Option Jvm.ClassFile.FieldType), Jvm.Cond.code ({ cls := "java/lang/Object", name := "<init>", desc := "()V" } : Jvm.MethodName) object_method_1_code (1 : Nat) (Option.none : Option Jvm.ClassFile.FieldType), Jvm.Cond.code ({ cls := "java/lang/StringUTF16", name := "compress", desc := "([CII)[B" } : Jvm.MethodName) jdk_52_method_16_code (6 : Nat) (Option.some (Jvm.ClassFile.FieldType.array Jvm.ClassFile.FieldType.byte)), Jvm.Cond.code ({ cls := "java/lang/StringUTF16", name := "compress", desc := "([CI[BII)I" } : Jvm.MethodName) jdk_52_method_21_code (7 : Nat) (Option.some Jvm.ClassFile.FieldType.int), Jvm.Cond.code ({ cls := "java/lang/StringUTF16", name := "coderFromArrayLen", desc := "([BI)B" } : Jvm.MethodName) jdk_52_method_15_code (2 : Nat) (Option.some Jvm.ClassFile.FieldType.byte), Jvm.Cond.code ({ cls := "com/example/precedence/precedence/MissingLinePinLaw", name := "expected", desc := "(ZZCCCC)[C" } : Jvm.MethodName) method_3_code (6 : Nat) (Option.some (Jvm.ClassFile.FieldType.array Jvm.ClassFile.FieldType.char)), Jvm.Cond.code ({ cls := "com/example/precedence/precedence/Problem$Missing", name := "<init>", desc := "(Ljava/lang/String;Ljava/lang/String;)V" } : Jvm.MethodName) prog_29_method_1_code (3 : Nat) (Option.none : Option Jvm.ClassFile.FieldType), Jvm.Cond.code ({ cls := "java/lang/Record", name := "<init>", desc := "()V" } : Jvm.MethodName) jdk_30_method_1_code (1 : Nat) (Option.none : Option Jvm.ClassFile.FieldType), Jvm.Cond.code ({ cls := "java/util/Objects", name := "requireNonNull", desc := "(Ljava/lang/Object;Ljava/lang/String;)Ljava/lang/Object;" } : Jvm.MethodName) jdk_31_method_11_code (2 : Nat) (Option.some (Jvm.ClassFile.FieldType.object "java/lang/Object")), Jvm.Cond.code ({ cls := "com/example/precedence/precedence/Problem$Missing", name := "line", desc := "()Ljava/lang/String;" } : Jvm.MethodName) prog_29_method_3_code (1 : Nat) (Option.some (Jvm.ClassFile.FieldType.object "java/lang/String")), Jvm.Cond.code ({ cls := "java/lang/StringBuilder", name := "<init>", desc := "()V" } : Jvm.MethodName) jdk_67_method_1_code (1 : Nat) (Option.none : Option Jvm.ClassFile.FieldType), Jvm.Cond.code ({ cls := "java/lang/AbstractStringBuilder", name := "<init>", desc := "(I)V" } : Jvm.MethodName) jdk_68_method_2_code (2 : Nat) (Option.none : Option Jvm.ClassFile.FieldType), Jvm.Cond.code ({ cls := "java/lang/StringBuilder", name := "append", desc := "(Ljava/lang/String;)Ljava/lang/StringBuilder;" } : Jvm.MethodName) jdk_67_method_7_code (2 : Nat) (Option.some (Jvm.ClassFile.FieldType.object "java/lang/StringBuilder")), Jvm.Cond.code ({ cls := "java/lang/AbstractStringBuilder", name := "append", desc := "(Ljava/lang/String;)Ljava/lang/AbstractStringBuilder;" } : Jvm.MethodName) jdk_68_method_22_code (3 : Nat) (Option.some (Jvm.ClassFile.FieldType.object "java/lang/AbstractStringBuilder")), Jvm.Cond.code ({ cls := "java/lang/String", name := "length", desc := "()I" } : Jvm.MethodName) jdk_42_method_54_code (1 : Nat) (Option.some Jvm.ClassFile.FieldType.int), Jvm.Cond.code ({ cls := "java/lang/String", name := "coder", desc := "()B" } : Jvm.MethodName) jdk_42_method_152_code (1 : Nat) (Option.some Jvm.ClassFile.FieldType.byte), Jvm.Cond.code ({ cls := "java/lang/AbstractStringBuilder", name := "ensureCapacityInternal", desc := "(I)V" } : Jvm.MethodName) jdk_68_method_9_code (3 : Nat) (Option.none : Option Jvm.ClassFile.FieldType), Jvm.Cond.code ({ cls := "java/lang/AbstractStringBuilder", name := "putStringAt", desc := "(ILjava/lang/String;)V" } : Jvm.MethodName) jdk_68_method_73_code (3 : Nat) (Option.none : Option Jvm.ClassFile.FieldType), Jvm.Cond.code ({ cls := "java/lang/AbstractStringBuilder", name := "inflateIfNeededFor", desc := "(Ljava/lang/String;)V" } : Jvm.MethodName) jdk_68_method_71_code (2 : Nat) (Option.none : Option Jvm.ClassFile.FieldType), Jvm.Cond.code ({ cls := "java/lang/String", name := "getBytes", desc := "([BIB)V" } : Jvm.MethodName) jdk_42_method_147_code (4 : Nat) (Option.none : Option Jvm.ClassFile.FieldType), Jvm.Cond.code ({ cls := "com/example/precedence/precedence/MissingDependencyException", name := "message", desc := "(Ljava/lang/String;Ljava/lang/String;)Ljava/lang/String;" } : Jvm.MethodName) prog_20_method_2_code (2 : Nat) (Option.some (Jvm.ClassFile.FieldType.object "java/lang/String")), Jvm.Cond.code ({ cls := "java/lang/AbstractStringBuilder", name := "newCapacity", desc := "(I)I" } : Jvm.MethodName) jdk_68_method_10_code (6 : Nat) (Option.some Jvm.ClassFile.FieldType.int), Jvm.Cond.code ({ cls := "jdk/internal/util/ArraysSupport", name := "newLength", desc := "(III)I" } : Jvm.MethodName) jdk_48_method_27_code (4 : Nat) (Option.some Jvm.ClassFile.FieldType.int), Jvm.Cond.code ({ cls := "java/lang/Math", name := "max", desc := "(II)I" } : Jvm.MethodName) jdk_29_method_65_code (2 : Nat) (Option.some Jvm.ClassFile.FieldType.int), Jvm.Cond.code ({ cls := "java/util/Arrays", name := "copyOf", desc := "([BI)[B" } : Jvm.MethodName) jdk_65_method_121_code (3 : Nat) (Option.some (Jvm.ClassFile.FieldType.array Jvm.ClassFile.FieldType.byte)), Jvm.Cond.code ({ cls := "java/lang/Math", name := "min", desc := "(II)I" } : Jvm.MethodName) jdk_29_method_69_code (2 : Nat) (Option.some Jvm.ClassFile.FieldType.int), Jvm.Cond.code ({ cls := "java/lang/StringBuilder", name := "toString", desc := "()Ljava/lang/String;" } : Jvm.MethodName) jdk_67_method_42_code (1 : Nat) (Option.some (Jvm.ClassFile.FieldType.object "java/lang/String")), Jvm.Cond.code ({ cls := "java/lang/String", name := "<init>", desc := "(Ljava/lang/StringBuilder;)V" } : Jvm.MethodName) jdk_42_method_53_code (2 : Nat) (Option.none : Option Jvm.ClassFile.FieldType), Jvm.Cond.code ({ cls := "java/lang/String", name := "<init>", desc := "(Ljava/lang/AbstractStringBuilder;Ljava/lang/Void;)V" } : Jvm.MethodName) jdk_42_method_150_code (5 : Nat) (Option.none : Option Jvm.ClassFile.FieldType), Jvm.Cond.code ({ cls := "java/lang/AbstractStringBuilder", name := "getValue", desc := "()[B" } : Jvm.MethodName) jdk_68_method_64_code (1 : Nat) (Option.some (Jvm.ClassFile.FieldType.array Jvm.ClassFile.FieldType.byte)), Jvm.Cond.code ({ cls := "java/lang/StringBuilder", name := "length", desc := "()I" } : Jvm.MethodName) jdk_67_method_93_code (1 : Nat) (Option.some Jvm.ClassFile.FieldType.int), Jvm.Cond.code ({ cls := "java/lang/AbstractStringBuilder", name := "length", desc := "()I" } : Jvm.MethodName) jdk_68_method_6_code (1 : Nat) (Option.some Jvm.ClassFile.FieldType.int), Jvm.Cond.code ({ cls := "java/lang/AbstractStringBuilder", name := "isLatin1", desc := "()Z" } : Jvm.MethodName) jdk_68_method_68_code (1 : Nat) (Option.some Jvm.ClassFile.FieldType.boolean), Jvm.Cond.code ({ cls := "java/util/Arrays", name := "copyOfRange", desc := "([BII)[B" } : Jvm.MethodName) jdk_65_method_132_code (3 : Nat) (Option.some (Jvm.ClassFile.FieldType.array Jvm.ClassFile.FieldType.byte)), Jvm.Cond.code ({ cls := "java/util/Arrays", name := "copyOfRangeByte", desc := "([BII)[B" } : Jvm.MethodName) jdk_65_method_133_code (5 : Nat) (Option.some (Jvm.ClassFile.FieldType.array Jvm.ClassFile.FieldType.byte)), Jvm.Cond.code ({ cls := "java/util/Arrays", name := "checkLength", desc := "(II)V" } : Jvm.MethodName) jdk_65_method_131_code (2 : Nat) (Option.none : Option Jvm.ClassFile.FieldType), Jvm.Cond.code ({ cls := "java/lang/String", name := "equals", desc := "(Ljava/lang/Object;)Z" } : Jvm.MethodName) jdk_42_method_66_code (3 : Nat) (Option.some Jvm.ClassFile.FieldType.boolean), Jvm.Cond.code ({ cls := "java/lang/StringLatin1", name := "equals", desc := "([B[B)Z" } : Jvm.MethodName) jdk_43_method_13_code (3 : Nat) (Option.some Jvm.ClassFile.FieldType.boolean)]
set_option maxRecDepth 65536 in
theorem codes_eq : words1.filter isCode = codes1 := rfl
theorem w_codes : ∀ c ∈ words1.filter isCode, c.before args0 about1 = true := by
  rw [codes_eq]
  intro c hc
  simp only [codes1, List.mem_cons, List.not_mem_nil, or_false] at hc
  rcases hc with rfl | rfl | rfl | rfl | rfl | rfl | rfl | rfl | rfl | rfl | rfl | rfl | rfl | rfl | rfl | rfl | rfl | rfl | rfl | rfl | rfl | rfl | rfl | rfl | rfl | rfl | rfl | rfl | rfl | rfl | rfl | rfl | rfl | rfl | rfl | rfl | rfl | rfl | rfl | rfl
  · exact w_c0
  · exact w_c1
  · exact w_c2
  · exact w_c3
  · exact w_c4
  · exact w_c5
  · exact w_c6
  · exact w_c7
  · exact w_c8
  · exact w_c9
  · exact w_c10
  · exact w_c11
  · exact w_c12
  · exact w_c13
  · exact w_c14
  · exact w_c15
  · exact w_c16
  · exact w_c17
  · exact w_c18
  · exact w_c19
  · exact w_c20
  · exact w_c21
  · exact w_c22
  · exact w_c23
  · exact w_c24
  · exact w_c25
  · exact w_c26
  · exact w_c27
  · exact w_c28
  · exact w_c29
  · exact w_c30
  · exact w_c31
  · exact w_c32
  · exact w_c33
  · exact w_c34
  · exact w_c35
  · exact w_c36
  · exact w_c37
  · exact w_c38
  · exact w_c39
set_option maxRecDepth 65536 in
theorem w_t1 : (words1.take 24).all (fun c => isCode c || c.before args0 about1) = true := by decide +kernel
set_option maxRecDepth 65536 in
theorem w_t2 : ((words1.drop 24).take 24).all (fun c => isCode c || c.before args0 about1) = true := by decide +kernel
set_option maxRecDepth 65536 in
theorem w_t3 : (((words1.drop 24).drop 24).take 24).all (fun c => isCode c || c.before args0 about1) = true := by decide +kernel
set_option maxRecDepth 65536 in
theorem w_t4 : ((((words1.drop 24).drop 24).drop 24).take 24).all (fun c => isCode c || c.before args0 about1) = true := by decide +kernel
set_option maxRecDepth 65536 in
theorem w_t5 : (((((words1.drop 24).drop 24).drop 24).drop 24).take 24).all (fun c => isCode c || c.before args0 about1) = true := by decide +kernel
set_option maxRecDepth 65536 in
theorem w_t6 : ((((((words1.drop 24).drop 24).drop 24).drop 24).drop 24).take 24).all (fun c => isCode c || c.before args0 about1) = true := by decide +kernel
set_option maxRecDepth 65536 in
theorem w_t7 : (((((((words1.drop 24).drop 24).drop 24).drop 24).drop 24).drop 24).take 24).all (fun c => isCode c || c.before args0 about1) = true := by decide +kernel
set_option maxRecDepth 65536 in
theorem w_t8 : ((((((((words1.drop 24).drop 24).drop 24).drop 24).drop 24).drop 24).drop 24).take 24).all (fun c => isCode c || c.before args0 about1) = true := by decide +kernel
set_option maxRecDepth 65536 in
theorem w_t9 : ((((((((words1.drop 24).drop 24).drop 24).drop 24).drop 24).drop 24).drop 24).drop 24).all (fun c => isCode c || c.before args0 about1) = true := by decide +kernel
theorem w_tables : (allAtoms (Jvm.Cond.code x code maxLocals ret :: tables_1)).before args0 about1 = true := by
  rw [allAtoms_all]
  show words1.all (fun c => c.before args0 about1) = true
  refine all_split ?_ w_codes
  rw [← List.take_append_drop 24 words1, List.all_append, w_t1, ← List.take_append_drop 24 (words1.drop 24), List.all_append, w_t2, ← List.take_append_drop 24 ((words1.drop 24).drop 24), List.all_append, w_t3, ← List.take_append_drop 24 (((words1.drop 24).drop 24).drop 24), List.all_append, w_t4, ← List.take_append_drop 24 ((((words1.drop 24).drop 24).drop 24).drop 24), List.all_append, w_t5, ← List.take_append_drop 24 (((((words1.drop 24).drop 24).drop 24).drop 24).drop 24), List.all_append, w_t6, ← List.take_append_drop 24 ((((((words1.drop 24).drop 24).drop 24).drop 24).drop 24).drop 24), List.all_append, w_t7, ← List.take_append_drop 24 (((((((words1.drop 24).drop 24).drop 24).drop 24).drop 24).drop 24).drop 24), List.all_append, w_t8, w_t9]
  rfl
set_option maxRecDepth 65536 in
theorem w_rest : rest_1_c.before args0 about1 = true := by decide +kernel
set_option maxRecDepth 65536 in
theorem w_case : (Jvm.Cond.and given_1 narrow_1).before args0 about1 = true := by decide +kernel
set_option maxRecDepth 65536 in
theorem w_consts : constsHeld consts_1 about1 := Jvm.Lit.constsHeldB_iff.mp (by decide +kernel)
theorem w_applies : (headSpec (Jvm.Cond.code x code maxLocals ret :: tables_1) room_1).applies x e0.platform about1 = true :=
  (Spec.applies_iff w_frames).mpr ⟨w_running, w_runnable, w_alone, w_named, w_hears, w_ripe, w_room, w_tables⟩
theorem atStart : AtStart classFile x code maxLocals ret World_1 tables_1 room_1 Calls_1 rest_1 Pre_1 launch0 p0 e0 about1 theMethod args0 below0 :=
  ⟨lists_1, trivial, launch0.admits_env _ _ _, launch0.least_env, fairChoices_fair.cas, fairChoices_fair.clock, w_frames, w_args, w_heap, w_applies, ⟨w_consts, trivial⟩, w_rest, w_case⟩
end start1
theorem witness_1 : WitnessClaimed_1 := ⟨start1.p0, start1.e0, start1.about1, start1.theMethod, start1.args0, start1.below0, start1.atStart⟩
end Jvm.Pilot.@@N@@
