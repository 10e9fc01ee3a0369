import JvmDerived
import JvmDerived.Pilot.@@N@@Statement
import JvmDerived.Pilot.@@N@@Code
set_option linter.unusedVariables false
set_option linter.unusedSimpArgs false
namespace Jvm.Own
open Sem ClassFile Op Lib Jvm.Stand Jvm.Free Jvm.LawKit Jvm.RoadKit
/-! THE LAYER. A symbolic heap (a list of cells, each described), and W: from here the body runs to its end with what Q says. One law an instruction: what W asks behind it gives W ahead of it. -/
/-- a field: the class that declares it, its name, its descriptor -/
abbrev Fd : Type := String × String × String
/-- a cell: an object (its class; its known fields; what they hold), or an array (its component type; what it holds) -/
abbrev SC : Type := (String × List Fd × List Value) ⊕ (FieldType × List Value)
abbrev obj (C : String) (fs : List Fd) (vs : List Value) : SC := Sum.inl (C, fs, vs)
abbrev arr (t : FieldType) (vs : List Value) : SC := Sum.inr (t, vs)
/-- its address; may the walk write it; what it is -/
abbrev Ent : Type := Addr × Bool × SC
/-- a String constant that has been loaded: its class, its entry, its text, where it lies -/
abbrev LitE : Type := String × Nat × String × Addr
/-- the launch, the case's start, its arguments, is the frame the narrow one -/
abbrev Gx : Type := Launch × State × Array Value × Bool
abbrev Gx.l (G : Gx) : Launch := G.1
abbrev Gx.Z (G : Gx) : State := G.2.1
abbrev Gx.a0 (G : Gx) : Array Value := G.2.2.1
abbrev Gx.nw (G : Gx) : Bool := G.2.2.2
/-- what one invocation has: program, environment, the state at its start, its method .. -/
abbrev Kx : Type := Program × Env × State × MethodId × Array Value × List Frame × Method × Code
abbrev Kx.p (K : Kx) : Program := K.1
abbrev Kx.e (K : Kx) : Env := K.2.1
abbrev Kx.s (K : Kx) : State := K.2.2.1
abbrev Kx.m (K : Kx) : MethodId := K.2.2.2.1
abbrev Kx.args (K : Kx) : Array Value := K.2.2.2.2.1
abbrev Kx.below (K : Kx) : List Frame := K.2.2.2.2.2.1
abbrev Kx.meth (K : Kx) : Method := K.2.2.2.2.2.2.1
abbrev Kx.c (K : Kx) : Code := K.2.2.2.2.2.2.2

/-! ### the symbolic heap -/
def AV (Z : State) (h : Heap) (a : Addr) (w : Bool) (t : FieldType) (vs : List Value) : Prop :=
  ∃ c : Cell, Arr Z h a c t ∧ c.slots.toList = vs ∧ vs.length < 2147483648 ∧ (∀ v ∈ vs, fits t v = true) ∧ (w = true → ∀ C, t = .object C → Ovr Z c.cls C)
def LaidAll (Z : State) (a0 : Array Value) (C : String) (fs : List Fd) : Prop :=
  (fs.map fun f => f.2.1).Nodup ∧ ∀ f ∈ fs, Laid Z a0 C f.1 f.2.1 f.2.2 ∧ ∃ t, parseFieldDescriptor f.2.2 = some t
theorem LaidAll.cons {Z : State} {a0 : Array Value} {C O n d : String} {t : FieldType} {fs : List Fd} (h : Laid Z a0 C O n d) (ht : parseFieldDescriptor d = some t) (r : ∀ f ∈ fs, Laid Z a0 C f.1 f.2.1 f.2.2 ∧ ∃ t, parseFieldDescriptor f.2.2 = some t) :
    ∀ f ∈ ((O, n, d) : Fd) :: fs, Laid Z a0 C f.1 f.2.1 f.2.2 ∧ ∃ t, parseFieldDescriptor f.2.2 = some t := fun f hf => by
  rcases List.mem_cons.mp hf with rfl | hf
  · exact ⟨h, t, ht⟩
  · exact r f hf
theorem LaidAll.nil {Z : State} {a0 : Array Value} {C : String} : ∀ f ∈ ([] : List Fd), Laid Z a0 C f.1 f.2.1 f.2.2 ∧ ∃ t, parseFieldDescriptor f.2.2 = some t := fun _ hf => nomatch hf
def Des (Z : State) (a0 : Array Value) (h : Heap) (a : Addr) (w : Bool) : SC → Prop
  | .inl (C, fs, vs) => Exa Z h a C ∧ vs.length = fs.length ∧ (∀ (i : Nat) (f : Fd) (v : Value), fs[i]? = some f → vs[i]? = some v → Fld Z h a f.1 f.2.1 f.2.2 v) ∧ (w = true → LaidAll Z a0 C fs)
  | .inr (t, vs) => AV Z h a w t vs
def Sep (As : List Ent) : Prop := (As.map fun e => (e.1, e.2.1)).Pairwise fun p q => p.2 = true ∨ q.2 = true → p.1 ≠ q.1
def Inv (G : Gx) (As : List Ent) (h : Heap) : Prop :=
  Ext G.Z.heap h ∧ Sep As ∧ ∀ e ∈ As, (e.2.1 = true → G.Z.heap.size ≤ e.1) ∧ Des G.Z G.a0 h e.1 e.2.1 e.2.2
def LI (Z : State) (vm : Vm) (Li : List LitE) : Prop := IB Z vm (Li.map fun q => q.2.2.1) ∧ ∀ q ∈ Li, RoadKit.Lit (Z.setVm vm) q.1 q.2.1 q.2.2.2

section Heaps
variable {Z : State} {a0 : Array Value} {h h' : Heap} {a b : Addr} {w : Bool} {sc sc' : SC} {As As' : List Ent} {G : Gx} {C O n d : String} {v : Value} {fs : List Fd} {vs vs' : List Value} {t : FieldType}
theorem Fld.cell' (e : ∀ c, h[a]? = some c → h'[a]? = some c) (F : Fld Z h a C n d v) : Fld Z h' a C n d v := by
  obtain ⟨cell, cf, k, i, f, h1, r⟩ := F; exact ⟨cell, cf, k, i, f, e _ h1, r⟩
theorem Exa.cell' (e : ∀ c, h[a]? = some c → h'[a]? = some c) (F : Exa Z h a C) : Exa Z h' a C := by
  obtain ⟨cell, k, h1, r⟩ := F; exact ⟨cell, k, e _ h1, r⟩
theorem Des.cell (e : ∀ c, h[a]? = some c → h'[a]? = some c) (D : Des Z a0 h a w sc) : Des Z a0 h' a w sc := by
  rcases sc with ⟨C, fs, vs⟩ | ⟨t, vs⟩
  · obtain ⟨h1, h2, h3, h4⟩ := D
    exact ⟨Exa.cell' e h1, h2, fun i f v q r => Fld.cell' e (h3 i f v q r), h4⟩
  · obtain ⟨c, A, r⟩ := D
    exact ⟨c, ⟨e _ A.1, A.2⟩, r⟩
theorem Des.lt (D : Des Z a0 h a w sc) : a < h.size := by
  rcases sc with ⟨C, fs, vs⟩ | ⟨t, vs⟩
  · exact D.1.lt
  · obtain ⟨c, A, -⟩ := D; exact A.lt
theorem Inv.ext (I : Inv G As h) (E : Ext h h') : Inv G As h' :=
  ⟨⟨Nat.le_trans I.1.1 E.1, fun x c q => E.2 x c (I.1.2 x c q)⟩, I.2.1, fun e he => ⟨(I.2.2 e he).1, (I.2.2 e he).2.cell fun c q => E.2 _ c q⟩⟩
theorem Inv.ge (I : Inv G As h) : G.Z.heap.size ≤ h.size := I.1.1
theorem Inv.push (I : Inv G As h) (E : Ext h h') (D : Des G.Z G.a0 h' h.size w sc) : Inv G ((h.size, w, sc) :: As) h' := by
  have J := I.ext E
  refine ⟨J.1, ?_, fun e he => ?_⟩
  · refine List.pairwise_cons.mpr ⟨fun p hp => ?_, I.2.1⟩
    obtain ⟨e, he, rfl⟩ := List.mem_map.mp hp
    exact fun _ => (Nat.ne_of_lt ((I.2.2 e he).2.lt)).symm
  · rcases List.mem_cons.mp he with rfl | he
    · exact ⟨fun _ => I.ge, D⟩
    · exact J.2.2 e he
/-- one cell of the list gets another description -/
def Upd (As : List Ent) (a : Addr) (sc sc' : SC) (As' : List Ent) : Prop := ∃ pre post, As = pre ++ (a, true, sc) :: post ∧ As' = pre ++ (a, true, sc') :: post
theorem Upd.head : Upd ((a, true, sc) :: As) a sc sc' ((a, true, sc') :: As) := ⟨[], As, rfl, rfl⟩
theorem Upd.tail {e : Ent} (u : Upd As a sc sc' As') : Upd (e :: As) a sc sc' (e :: As') := by
  obtain ⟨pre, post, rfl, rfl⟩ := u; exact ⟨e :: pre, post, rfl, rfl⟩
theorem Upd.mem (u : Upd As a sc sc' As') : (a, true, sc) ∈ As := by obtain ⟨pre, post, rfl, rfl⟩ := u; simp
theorem Inv.upd (I : Inv G As h) (u : Upd As a sc sc' As') (k : ∀ b, b ≠ a → ∀ c : Cell, h[b]? = some c → h'[b]? = some c) (hs : h.size ≤ h'.size) (D : Des G.Z G.a0 h' a true sc') : Inv G As' h' := by
  have hm := I.2.2 _ u.mem
  obtain ⟨pre, post, rfl, rfl⟩ := u
  have ha : G.Z.heap.size ≤ a := hm.1 rfl
  have sp := I.2.1
  refine ⟨⟨Nat.le_trans I.1.1 hs, fun x c q => k x (fun e => ?_) c (I.1.2 x c q)⟩, ?_, fun e he => ?_⟩
  · subst e; exact absurd (Array.getElem?_eq_some_iff.mp q).1 (Nat.not_lt.mpr ha)
  · simpa [Sep] using sp
  · simp only [Sep, List.map_append, List.map_cons, List.pairwise_append, List.pairwise_cons] at sp
    rcases List.mem_append.mp he with he | he
    · have q := I.2.2 e (List.mem_append_left _ he)
      refine ⟨q.1, q.2.cell (k _ ?_)⟩
      exact sp.2.2 _ (List.mem_map_of_mem he) (a, true) (List.mem_cons_self ..) (by simp)
    · rcases List.mem_cons.mp he with rfl | he
      · exact ⟨fun _ => ha, D⟩
      · have q := I.2.2 e (List.mem_append_right _ (List.mem_cons_of_mem _ he))
        refine ⟨q.1, q.2.cell (k _ ?_)⟩
        exact (sp.2.1.1 _ (List.mem_map_of_mem he) (by simp)).symm
/-- two places of the list, one of them the walk's own, are two cells -/
theorem Inv.ne (I : Inv G As h) {i j : Nat} {w' : Bool} (hi : As[i]? = some (a, w, sc)) (hj : As[j]? = some (b, w', sc')) (ij : i < j) (hw : w = true ∨ w' = true) : a ≠ b := by
  have sp := I.2.1
  rw [Sep, List.pairwise_iff_getElem] at sp
  obtain ⟨i1, i2⟩ := List.getElem?_eq_some_iff.mp hi
  obtain ⟨j1, j2⟩ := List.getElem?_eq_some_iff.mp hj
  have q := sp i j (by simpa using i1) (by simpa using j1) ij
  simp only [List.getElem_map, i2, j2] at q
  exact q hw
theorem Inv.perm (I : Inv G As h) (q : As.Perm As') : Inv G As' h := by
  refine ⟨I.1, ?_, fun e he => I.2.2 e (q.mem_iff.mpr he)⟩
  exact (q.map _).pairwise I.2.1 (fun {x y} r s => (r (s.symm)).symm)
theorem Inv.drop (I : Inv G As h) (q : As'.Sublist As) : Inv G As' h :=
  ⟨I.1, I.2.1.sublist (q.map _), fun e he => I.2.2 e (q.subset he)⟩
/-! fields by their names -/
def FAt (fs : List Fd) (vs : List Value) (O n d : String) (v : Value) : Prop := ∃ i : Nat, fs[i]? = some (O, n, d) ∧ vs[i]? = some v
theorem FAt.head : FAt ((O, n, d) :: fs) (v :: vs) O n d v := ⟨0, rfl, rfl⟩
theorem FAt.tail {f : Fd} {u : Value} (q : FAt fs vs O n d v) : FAt (f :: fs) (u :: vs) O n d v := by obtain ⟨i, h1, h2⟩ := q; exact ⟨i + 1, h1, h2⟩
def FUp (fs : List Fd) (vs : List Value) (O n d : String) (v : Value) (vs' : List Value) : Prop := ∃ i : Nat, fs[i]? = some (O, n, d) ∧ i < vs.length ∧ vs' = vs.set i v
theorem FUp.head {u : Value} : FUp ((O, n, d) :: fs) (u :: vs) O n d v (v :: vs) := ⟨0, rfl, Nat.succ_pos _, rfl⟩
theorem FUp.tail {f : Fd} {u : Value} (q : FUp fs vs O n d v vs') : FUp (f :: fs) (u :: vs) O n d v (u :: vs') := by
  obtain ⟨i, h1, h2, rfl⟩ := q; exact ⟨i + 1, h1, Nat.succ_lt_succ h2, rfl⟩
theorem Inv.fld (I : Inv G As h) (hm : (a, w, obj C fs vs) ∈ As) (q : FAt fs vs O n d v) : Fld G.Z h a O n d v := by
  obtain ⟨i, h1, h2⟩ := q; exact (I.2.2 _ hm).2.2.2.1 i _ v h1 h2
theorem Inv.exa (I : Inv G As h) (hm : (a, w, obj C fs vs) ∈ As) : Exa G.Z h a C := (I.2.2 _ hm).2.1
theorem Inv.av (I : Inv G As h) (hm : (a, w, arr t vs) ∈ As) : AV G.Z h a w t vs := (I.2.2 _ hm).2
theorem Inv.old (I : Inv G As h) : Ext G.Z.heap h := I.1
/-- a field is written -/
theorem Inv.wrF (I : Inv G As h) (u : Upd As a (obj C fs vs) (obj C fs vs') As') (q : FUp fs vs O n d v vs') (W : Wr h h' a (RoadKit.slotOf G.Z O n d) v) : Inv G As' h' := by
  have hm := (I.2.2 _ u.mem).2
  obtain ⟨i, h1, h2, rfl⟩ := q
  obtain ⟨e1, e2, e3, e4⟩ := hm
  have L := e4 rfl
  refine I.upd u (fun b hb c hc => ?_) (Nat.le_of_eq W.size.symm) ⟨e1.wr W, by rw [List.length_set]; exact e2, fun j f x hf hx => ?_, e4⟩
  · obtain ⟨c', q1, -, -, -, q5, -⟩ := wr_at W hc
    rw [q1, q5 hb]
  · by_cases ij : i = j
    · subst ij
      rw [h1] at hf; cases hf
      rw [List.getElem?_set_self h2] at hx; cases hx
      exact (e3 i _ _ h1 (List.getElem?_eq_getElem h2)).same W
    · rw [List.getElem?_set_ne ij] at hx
      refine (e3 j f x hf hx).other W (Or.inr ?_)
      obtain ⟨L1, t1, p1⟩ := L.2 f (List.mem_of_getElem? hf)
      obtain ⟨L2, t2, p2⟩ := L.2 _ (List.mem_of_getElem? h1)
      refine slot_ne L1 L2 (fun e => ?_) p1 p2
      have nd := L.1
      rw [List.nodup_iff_pairwise_ne, List.pairwise_iff_getElem] at nd
      obtain ⟨i1, i2⟩ := List.getElem?_eq_some_iff.mp h1
      obtain ⟨j1, j2⟩ := List.getElem?_eq_some_iff.mp hf
      rcases Nat.lt_or_gt_of_ne ij with lt | lt
      · have := nd i j (by simpa using i1) (by simpa using j1) lt
        simp only [List.getElem_map, i2, j2] at this
        exact this e.symm
      · have := nd j i (by simpa using j1) (by simpa using i1) lt
        simp only [List.getElem_map, i2, j2] at this
        exact this e
/-- a place of an array is written -/
theorem Inv.wrA (I : Inv G As h) {k : Nat} {c : Cell} (A : Arr G.Z h a c t) (u : Upd As a (arr t vs) (arr t (vs.set k v)) As') (hv : fits t v = true) (W : Wr h h' a k v) : Inv G As' h' := by
  have hm := (I.2.2 _ u.mem).2
  obtain ⟨c', A', e1, e2, e3, e4⟩ := hm
  cases A.1.symm.trans A'.1
  refine I.upd u (fun b hb c hc => ?_) (Nat.le_of_eq W.size.symm) ⟨c.setSlot k v, Arr.same W A, ?_, by rw [List.length_set]; exact e2, fun x hx => ?_, e4⟩
  · obtain ⟨c', q1, -, -, -, q5, -⟩ := wr_at W hc
    rw [q1, q5 hb]
  · rw [← e1]; simp [Cell.setSlot]
  · rcases List.mem_or_eq_of_mem_set hx with hx | rfl
    · exact e3 x hx
    · exact hv
theorem LI.warm {s : State} {vm0 vm1 : Vm} {Li : List LitE} (L : LI Z vm0 Li) (hW : (s.setVm vm0).WarmedH vm1) : LI Z vm1 Li := by
  obtain ⟨⟨more, e, hm⟩, r⟩ := L
  exact ⟨⟨more, hW.interned_eq.trans e, hm⟩, fun q hq => Lit.stays (s := s) (r q hq) hW.wide⟩
end Heaps
end Jvm.Own
namespace Jvm.Own
open Sem ClassFile Op Lib Jvm.Stand Jvm.Free Jvm.LawKit Jvm.RoadKit
abbrev Qx : Type := Option Value → List Ent → List LitE → Prop
/-- the run from t ends: the method returns v, and Q says what lies there then -/
def Fini (G : Gx) (K : Kx) (R : Room) (Q : Qx) (t : State) : Prop :=
  ∃ (U : State) (v : Option Value), Steps K.p.tables K.e K.below t U ∧ U.status = .running ∧ Ended U K.below (.returned v) ∧
    ∃ (L : List Loc) (As : List Ent) (Li : List LitE), Q v As Li ∧ Inv G As U.heap ∧ LI G.Z U.vm Li ∧ Fr G.Z.heap.size L ∧ ReturnedEndW K.s (.returned v) U L R.cells R.slots ∧ (G.nw = true → K.s.WarmedH U.vm)
def Ok (G : Gx) (K : Kx) (y : MethodName) (code : ByteArray) (mL : Nat) (ret : Option FieldType) : Prop :=
  K.p.tables.exec = Jvm.exec ∧ K.c.code = code ∧ K.c.maxLocals = mL ∧ G.Z.Warmed39 K.s.vm ∧ K.s.vm.findClass y.cls = some K.m.cls ∧ K.meth.name = y.name ∧ K.meth.sig.returnType = ret ∧ K.meth.locks = false
/-- the body of y stands at pc with these locals and this stack over this symbolic heap: it runs to its end -/
def W (G : Gx) (K : Kx) (y : MethodName) (code : ByteArray) (ret : Option FieldType) (R : Room) (Q : Qx) (As : List Ent) (Li : List LitE) (cells slots pc : Nat) (Ls : List Slot) (st : List Value) : Prop :=
  ∀ (T : State) (vm0 : Vm) (k0 : Nat) (locs : List Loc), Ok G K y code Ls.length ret → Stand K.p G.l K.e R (K.s.setVm vm0) K.m K.args K.below K.meth K.c T locs cells slots →
    K.s.Since vm0 k0 → k0 ≤ T.heap.size → (G.nw = true → K.s.WarmedH vm0) → Inv G As T.heap → LI G.Z vm0 Li → Fr G.Z.heap.size locs → Fini G K R Q (T.setTop (mkF K.m pc Ls.toArray st))
section Laws
variable {G : Gx} {K : Kx} {y : MethodName} {code : ByteArray} {ret : Option FieldType} {R : Room} {Q : Qx} {As As' : List Ent} {Li Li' : List LitE} {cells slots pc pc' : Nat} {Ls Ls' : List Slot} {st st' : List Value}
theorem W.via (hlen : Ls'.length = Ls.length) (n : W G K y code ret R Q As Li cells slots pc' Ls' st')
    (stp : ∀ T : State, At T K.m K.c K.below → K.p.tables.exec = Jvm.exec → K.c.code = code → ∀ target, Steps K.p.tables K.e K.below (T.setTop (mkF K.m pc' Ls'.toArray st')) target → Steps K.p.tables K.e K.below (T.setTop (mkF K.m pc Ls.toArray st)) target) :
    W G K y code ret R Q As Li cells slots pc Ls st := by
  intro T vm0 k0 locs ok X hS hk hN hI hL hF
  obtain ⟨U, v, h1, h2⟩ := n T vm0 k0 locs (hlen ▸ ok) X hS hk hN hI hL hF
  exact ⟨U, v, stp T X.here ok.1 ok.2.1 U h1, h2⟩
theorem W.mono {cells' slots' : Nat} (n : W G K y code ret R Q As Li cells' slots' pc Ls st) (hc : cells ≤ cells') (hs : slots ≤ slots') : W G K y code ret R Q As Li cells slots pc Ls st :=
  fun T vm0 k0 locs ok X hS hk hN hI hL hF => n T vm0 k0 locs ok (X.more hc hs) hS hk hN hI hL hF
theorem W.perm (n : W G K y code ret R Q As' Li cells slots pc Ls st) (q : As.Perm As') : W G K y code ret R Q As Li cells slots pc Ls st :=
  fun T vm0 k0 locs ok X hS hk hN hI hL hF => n T vm0 k0 locs ok X hS hk hN (hI.perm q) hL hF
theorem W.drop (n : W G K y code ret R Q As' Li cells slots pc Ls st) (q : As'.Sublist As) : W G K y code ret R Q As Li cells slots pc Ls st :=
  fun T vm0 k0 locs ok X hS hk hN hI hL hF => n T vm0 k0 locs ok X hS hk hN (hI.drop q) hL hF
theorem W.know (n : ∀ h, Inv G As h → W G K y code ret R Q As Li cells slots pc Ls st) : W G K y code ret R Q As Li cells slots pc Ls st :=
  fun T vm0 k0 locs ok X hS hk hN hI hL hF => n T.heap hI T vm0 k0 locs ok X hS hk hN hI hL hF
theorem W.conseq {Q' : Qx} (n : W G K y code ret R Q' As Li cells slots pc Ls st) (q : ∀ v As Li, Q' v As Li → Q v As Li) : W G K y code ret R Q As Li cells slots pc Ls st := by
  intro T vm0 k0 locs ok X hS hk hN hI hL hF
  obtain ⟨U, v, h1, h2, h3, L, A, I, h4, h5⟩ := n T vm0 k0 locs ok X hS hk hN hI hL hF
  exact ⟨U, v, h1, h2, h3, L, A, I, q _ _ _ h4, h5⟩

theorem W.iloadN {k : Fin 4} {v : Int32} (hd : decode code pc = .ok (.iload_n k, 1)) (hl : Ls[k.val]? = some (.val (.int v))) (n : W G K y code ret R Q As Li cells slots (pc + 1) Ls (.int v :: st)) : W G K y code ret R Q As Li cells slots pc Ls st :=
  W.via rfl n fun T h hx hby tg hr => XS.iloadN h hx rfl (hb hby hd) (by simpa using hl) hr
theorem W.iload {k : Nat} {v : Int32} (hd : decode code pc = .ok (.iload k, 2)) (hl : Ls[k]? = some (.val (.int v))) (n : W G K y code ret R Q As Li cells slots (pc + 2) Ls (.int v :: st)) : W G K y code ret R Q As Li cells slots pc Ls st :=
  W.via rfl n fun T h hx hby tg hr => XS.iload h hx rfl (hb hby hd) (by simpa using hl) hr
theorem W.lloadN {k : Fin 4} {v : Int64} (hd : decode code pc = .ok (.lload_n k, 1)) (hl : Ls[k.val]? = some (.val (.long v))) (n : W G K y code ret R Q As Li cells slots (pc + 1) Ls (.long v :: st)) : W G K y code ret R Q As Li cells slots pc Ls st :=
  W.via rfl n fun T h hx hby tg hr => XS.lloadN h hx rfl (hb hby hd) (by simpa using hl) hr
theorem W.lload {k : Nat} {v : Int64} (hd : decode code pc = .ok (.lload k, 2)) (hl : Ls[k]? = some (.val (.long v))) (n : W G K y code ret R Q As Li cells slots (pc + 2) Ls (.long v :: st)) : W G K y code ret R Q As Li cells slots pc Ls st :=
  W.via rfl n fun T h hx hby tg hr => XS.lload h hx rfl (hb hby hd) (by simpa using hl) hr
theorem W.aloadN {k : Fin 4} {v : Value} (hd : decode code pc = .ok (.aload_n k, 1)) (hl : Ls[k.val]? = some (.val v)) (hv : v.isRef = true) (n : W G K y code ret R Q As Li cells slots (pc + 1) Ls (v :: st)) : W G K y code ret R Q As Li cells slots pc Ls st :=
  W.via rfl n fun T h hx hby tg hr => XS.aloadN h hx rfl (hb hby hd) (by simpa using hl) hv hr
theorem W.aload {k : Nat} {v : Value} (hd : decode code pc = .ok (.aload k, 2)) (hl : Ls[k]? = some (.val v)) (hv : v.isRef = true) (n : W G K y code ret R Q As Li cells slots (pc + 2) Ls (v :: st)) : W G K y code ret R Q As Li cells slots pc Ls st :=
  W.via rfl n fun T h hx hby tg hr => XS.aload h hx rfl (hb hby hd) (by simpa using hl) hv hr
theorem W.istoreN {k : Fin 4} {x : Int32} (hd : decode code pc = .ok (.istore_n k, 1)) (hl : storeLocals Ls.toArray k.val (.int x) = some Ls'.toArray) (hn : Ls'.length = Ls.length) (n : W G K y code ret R Q As Li cells slots (pc + 1) Ls' st) : W G K y code ret R Q As Li cells slots pc Ls (.int x :: st) :=
  W.via hn n fun T h hx hby tg hr => XS.istoreN h hx rfl (hb hby hd) rfl hl hr
theorem W.istore {k : Nat} {x : Int32} (hd : decode code pc = .ok (.istore k, 2)) (hl : storeLocals Ls.toArray k (.int x) = some Ls'.toArray) (hn : Ls'.length = Ls.length) (n : W G K y code ret R Q As Li cells slots (pc + 2) Ls' st) : W G K y code ret R Q As Li cells slots pc Ls (.int x :: st) :=
  W.via hn n fun T h hx hby tg hr => XS.istore h hx rfl (hb hby hd) rfl hl hr
theorem W.lstoreN {k : Fin 4} {x : Int64} (hd : decode code pc = .ok (.lstore_n k, 1)) (hl : storeLocals Ls.toArray k.val (.long x) = some Ls'.toArray) (hn : Ls'.length = Ls.length) (n : W G K y code ret R Q As Li cells slots (pc + 1) Ls' st) : W G K y code ret R Q As Li cells slots pc Ls (.long x :: st) :=
  W.via hn n fun T h hx hby tg hr => XS.lstoreN h hx rfl (hb hby hd) rfl hl hr
theorem W.lstore {k : Nat} {x : Int64} (hd : decode code pc = .ok (.lstore k, 2)) (hl : storeLocals Ls.toArray k (.long x) = some Ls'.toArray) (hn : Ls'.length = Ls.length) (n : W G K y code ret R Q As Li cells slots (pc + 2) Ls' st) : W G K y code ret R Q As Li cells slots pc Ls (.long x :: st) :=
  W.via hn n fun T h hx hby tg hr => XS.lstore h hx rfl (hb hby hd) rfl hl hr
theorem W.astoreN {k : Fin 4} {x : Value} (hd : decode code pc = .ok (.astore_n k, 1)) (hv : x.isRef = true) (hl : storeLocals Ls.toArray k.val x = some Ls'.toArray) (hn : Ls'.length = Ls.length) (n : W G K y code ret R Q As Li cells slots (pc + 1) Ls' st) : W G K y code ret R Q As Li cells slots pc Ls (x :: st) :=
  W.via hn n fun T h hx hby tg hr => XS.astoreN h hx rfl (hb hby hd) rfl hv hl hr
theorem W.astore {k : Nat} {x : Value} (hd : decode code pc = .ok (.astore k, 2)) (hv : x.isRef = true) (hl : storeLocals Ls.toArray k x = some Ls'.toArray) (hn : Ls'.length = Ls.length) (n : W G K y code ret R Q As Li cells slots (pc + 2) Ls' st) : W G K y code ret R Q As Li cells slots pc Ls (x :: st) :=
  W.via hn n fun T h hx hby tg hr => XS.astore h hx rfl (hb hby hd) rfl hv hl hr
theorem W.iinc {k : Nat} {cst : Int} {x z : Int32} (hd : decode code pc = .ok (.iinc k cst, 3)) (hk : Ls[k]? = some (.val (.int x))) (hz : Int32.ofInt cst = z) (hl : storeLocals Ls.toArray k (.int (x + z)) = some Ls'.toArray) (hn : Ls'.length = Ls.length) (n : W G K y code ret R Q As Li cells slots (pc + 3) Ls' st) : W G K y code ret R Q As Li cells slots pc Ls st :=
  W.via hn n fun T h hx hby tg hr => XS.iinc h hx rfl (hb hby hd) (by simpa using hk) (by rw [hz]; exact hl) hr
theorem W.iconst {i : Int} {z : Int32} (hd : decode code pc = .ok (.iconst i, 1)) (hz : Int32.ofInt i = z) (n : W G K y code ret R Q As Li cells slots (pc + 1) Ls (.int z :: st)) : W G K y code ret R Q As Li cells slots pc Ls st :=
  W.via rfl n fun T h hx hby tg hr => XS.iconst h hx rfl (hb hby hd) (by rw [hz]; exact hr)
theorem W.bipush {i : Int} {z : Int32} (hd : decode code pc = .ok (.bipush i, 2)) (hz : (Int8.ofInt i).toInt32 = z) (n : W G K y code ret R Q As Li cells slots (pc + 2) Ls (.int z :: st)) : W G K y code ret R Q As Li cells slots pc Ls st :=
  W.via rfl n fun T h hx hby tg hr => XS.bipush h hx rfl (hb hby hd) (by rw [hz]; exact hr)
theorem W.sipush {i : Int} {z : Int32} (hd : decode code pc = .ok (.sipush i, 3)) (hz : (Int16.ofInt i).toInt32 = z) (n : W G K y code ret R Q As Li cells slots (pc + 3) Ls (.int z :: st)) : W G K y code ret R Q As Li cells slots pc Ls st :=
  W.via rfl n fun T h hx hby tg hr => XS.sipush h hx rfl (hb hby hd) (by rw [hz]; exact hr)
theorem W.lconst {k : Fin 2} {z : Int64} (hd : decode code pc = .ok (.lconst k, 1)) (hz : Int64.ofNat k = z) (n : W G K y code ret R Q As Li cells slots (pc + 1) Ls (.long z :: st)) : W G K y code ret R Q As Li cells slots pc Ls st :=
  W.via rfl n fun T h hx hby tg hr => XS.lconst h hx rfl (hb hby hd) (by rw [hz]; exact hr)
theorem W.aconstNull  (hd : decode code pc = .ok (.aconst_null, 1))  (n : W G K y code ret R Q As Li cells slots (pc + 1) Ls (.null :: st)) : W G K y code ret R Q As Li cells slots pc Ls st :=
  W.via rfl n fun T h hx hby tg hr => XS.aconstNull h hx rfl (hb hby hd) hr
theorem W.iadd {x u z : Int32} (hd : decode code pc = .ok (.iadd, 1)) (hz : x + u = z) (n : W G K y code ret R Q As Li cells slots (pc + 1) Ls (.int z :: st)) : W G K y code ret R Q As Li cells slots pc Ls (.int u :: .int x :: st) :=
  W.via rfl n fun T h hx hby tg hr => XS.iadd h hx rfl (hb hby hd) rfl (by subst hz; exact hr)
theorem W.isub {x u z : Int32} (hd : decode code pc = .ok (.isub, 1)) (hz : x - u = z) (n : W G K y code ret R Q As Li cells slots (pc + 1) Ls (.int z :: st)) : W G K y code ret R Q As Li cells slots pc Ls (.int u :: .int x :: st) :=
  W.via rfl n fun T h hx hby tg hr => XS.isub h hx rfl (hb hby hd) rfl (by subst hz; exact hr)
theorem W.imul {x u z : Int32} (hd : decode code pc = .ok (.imul, 1)) (hz : x * u = z) (n : W G K y code ret R Q As Li cells slots (pc + 1) Ls (.int z :: st)) : W G K y code ret R Q As Li cells slots pc Ls (.int u :: .int x :: st) :=
  W.via rfl n fun T h hx hby tg hr => XS.imul h hx rfl (hb hby hd) rfl (by subst hz; exact hr)
theorem W.iand {x u z : Int32} (hd : decode code pc = .ok (.iand, 1)) (hz : x &&& u = z) (n : W G K y code ret R Q As Li cells slots (pc + 1) Ls (.int z :: st)) : W G K y code ret R Q As Li cells slots pc Ls (.int u :: .int x :: st) :=
  W.via rfl n fun T h hx hby tg hr => XS.iand h hx rfl (hb hby hd) rfl (by subst hz; exact hr)
theorem W.ior {x u z : Int32} (hd : decode code pc = .ok (.ior, 1)) (hz : x ||| u = z) (n : W G K y code ret R Q As Li cells slots (pc + 1) Ls (.int z :: st)) : W G K y code ret R Q As Li cells slots pc Ls (.int u :: .int x :: st) :=
  W.via rfl n fun T h hx hby tg hr => XS.ior h hx rfl (hb hby hd) rfl (by subst hz; exact hr)
theorem W.ixor {x u z : Int32} (hd : decode code pc = .ok (.ixor, 1)) (hz : x ^^^ u = z) (n : W G K y code ret R Q As Li cells slots (pc + 1) Ls (.int z :: st)) : W G K y code ret R Q As Li cells slots pc Ls (.int u :: .int x :: st) :=
  W.via rfl n fun T h hx hby tg hr => XS.ixor h hx rfl (hb hby hd) rfl (by subst hz; exact hr)
theorem W.ishl {x u z : Int32} (hd : decode code pc = .ok (.ishl, 1)) (hz : x <<< (u &&& 31) = z) (n : W G K y code ret R Q As Li cells slots (pc + 1) Ls (.int z :: st)) : W G K y code ret R Q As Li cells slots pc Ls (.int u :: .int x :: st) :=
  W.via rfl n fun T h hx hby tg hr => XS.ishl h hx rfl (hb hby hd) rfl (by subst hz; exact hr)
theorem W.ishr {x u z : Int32} (hd : decode code pc = .ok (.ishr, 1)) (hz : x >>> (u &&& 31) = z) (n : W G K y code ret R Q As Li cells slots (pc + 1) Ls (.int z :: st)) : W G K y code ret R Q As Li cells slots pc Ls (.int u :: .int x :: st) :=
  W.via rfl n fun T h hx hby tg hr => XS.ishr h hx rfl (hb hby hd) rfl (by subst hz; exact hr)
theorem W.iushr {x u z : Int32} (hd : decode code pc = .ok (.iushr, 1)) (hz : (x.toUInt32 >>> (u &&& 31).toUInt32).toInt32 = z) (n : W G K y code ret R Q As Li cells slots (pc + 1) Ls (.int z :: st)) : W G K y code ret R Q As Li cells slots pc Ls (.int u :: .int x :: st) :=
  W.via rfl n fun T h hx hby tg hr => XS.iushr h hx rfl (hb hby hd) rfl (by subst hz; exact hr)
theorem W.ladd {x u z : Int64} (hd : decode code pc = .ok (.ladd, 1)) (hz : x + u = z) (n : W G K y code ret R Q As Li cells slots (pc + 1) Ls (.long z :: st)) : W G K y code ret R Q As Li cells slots pc Ls (.long u :: .long x :: st) :=
  W.via rfl n fun T h hx hby tg hr => XS.ladd h hx rfl (hb hby hd) rfl (by subst hz; exact hr)
theorem W.lsub {x u z : Int64} (hd : decode code pc = .ok (.lsub, 1)) (hz : x - u = z) (n : W G K y code ret R Q As Li cells slots (pc + 1) Ls (.long z :: st)) : W G K y code ret R Q As Li cells slots pc Ls (.long u :: .long x :: st) :=
  W.via rfl n fun T h hx hby tg hr => XS.lsub h hx rfl (hb hby hd) rfl (by subst hz; exact hr)
theorem W.lmul {x u z : Int64} (hd : decode code pc = .ok (.lmul, 1)) (hz : x * u = z) (n : W G K y code ret R Q As Li cells slots (pc + 1) Ls (.long z :: st)) : W G K y code ret R Q As Li cells slots pc Ls (.long u :: .long x :: st) :=
  W.via rfl n fun T h hx hby tg hr => XS.lmul h hx rfl (hb hby hd) rfl (by subst hz; exact hr)
theorem W.land {x u z : Int64} (hd : decode code pc = .ok (.land, 1)) (hz : x &&& u = z) (n : W G K y code ret R Q As Li cells slots (pc + 1) Ls (.long z :: st)) : W G K y code ret R Q As Li cells slots pc Ls (.long u :: .long x :: st) :=
  W.via rfl n fun T h hx hby tg hr => XS.land h hx rfl (hb hby hd) rfl (by subst hz; exact hr)
theorem W.lor {x u z : Int64} (hd : decode code pc = .ok (.lor, 1)) (hz : x ||| u = z) (n : W G K y code ret R Q As Li cells slots (pc + 1) Ls (.long z :: st)) : W G K y code ret R Q As Li cells slots pc Ls (.long u :: .long x :: st) :=
  W.via rfl n fun T h hx hby tg hr => XS.lor h hx rfl (hb hby hd) rfl (by subst hz; exact hr)
theorem W.lxor {x u z : Int64} (hd : decode code pc = .ok (.lxor, 1)) (hz : x ^^^ u = z) (n : W G K y code ret R Q As Li cells slots (pc + 1) Ls (.long z :: st)) : W G K y code ret R Q As Li cells slots pc Ls (.long u :: .long x :: st) :=
  W.via rfl n fun T h hx hby tg hr => XS.lxor h hx rfl (hb hby hd) rfl (by subst hz; exact hr)
theorem W.idiv {x u z : Int32} (hd : decode code pc = .ok (.idiv, 1)) (hy : u ≠ 0) (hz : x / u = z) (n : W G K y code ret R Q As Li cells slots (pc + 1) Ls (.int z :: st)) : W G K y code ret R Q As Li cells slots pc Ls (.int u :: .int x :: st) :=
  W.via rfl n fun T h hx hby tg hr => XS.idiv h hx rfl (hb hby hd) rfl hy (by subst hz; exact hr)
theorem W.irem {x u z : Int32} (hd : decode code pc = .ok (.irem, 1)) (hy : u ≠ 0) (hz : x - x / u * u = z) (n : W G K y code ret R Q As Li cells slots (pc + 1) Ls (.int z :: st)) : W G K y code ret R Q As Li cells slots pc Ls (.int u :: .int x :: st) :=
  W.via rfl n fun T h hx hby tg hr => XS.irem h hx rfl (hb hby hd) rfl hy (by subst hz; exact hr)
theorem W.ldiv {x u z : Int64} (hd : decode code pc = .ok (.ldiv, 1)) (hy : u ≠ 0) (hz : x / u = z) (n : W G K y code ret R Q As Li cells slots (pc + 1) Ls (.long z :: st)) : W G K y code ret R Q As Li cells slots pc Ls (.long u :: .long x :: st) :=
  W.via rfl n fun T h hx hby tg hr => XS.ldiv h hx rfl (hb hby hd) rfl hy (by subst hz; exact hr)
theorem W.lrem {x u z : Int64} (hd : decode code pc = .ok (.lrem, 1)) (hy : u ≠ 0) (hz : x - x / u * u = z) (n : W G K y code ret R Q As Li cells slots (pc + 1) Ls (.long z :: st)) : W G K y code ret R Q As Li cells slots pc Ls (.long u :: .long x :: st) :=
  W.via rfl n fun T h hx hby tg hr => XS.lrem h hx rfl (hb hby hd) rfl hy (by subst hz; exact hr)
theorem W.irem' {x u : Int32} (hd : decode code pc = .ok (.irem, 1)) (hy : u ≠ 0) (n : W G K y code ret R Q As Li cells slots (pc + 1) Ls (.int (x % u) :: st)) : W G K y code ret R Q As Li cells slots pc Ls (.int u :: .int x :: st) :=
  W.via rfl n fun T h hx hby tg hr => XS.irem h hx rfl (hb hby hd) rfl hy (by rw [irem_eq_mod]; exact hr)
theorem W.ineg {x : Int32} {z : Int32} (hd : decode code pc = .ok (.ineg, 1)) (hz : -x = z) (n : W G K y code ret R Q As Li cells slots (pc + 1) Ls (.int z :: st)) : W G K y code ret R Q As Li cells slots pc Ls (.int x :: st) :=
  W.via rfl n fun T h hx hby tg hr => XS.ineg h hx rfl (hb hby hd) rfl (by subst hz; exact hr)
theorem W.lneg {x : Int64} {z : Int64} (hd : decode code pc = .ok (.lneg, 1)) (hz : -x = z) (n : W G K y code ret R Q As Li cells slots (pc + 1) Ls (.long z :: st)) : W G K y code ret R Q As Li cells slots pc Ls (.long x :: st) :=
  W.via rfl n fun T h hx hby tg hr => XS.lneg h hx rfl (hb hby hd) rfl (by subst hz; exact hr)
theorem W.i2l {x : Int32} {z : Int64} (hd : decode code pc = .ok (.i2l, 1)) (hz : x.toInt64 = z) (n : W G K y code ret R Q As Li cells slots (pc + 1) Ls (.long z :: st)) : W G K y code ret R Q As Li cells slots pc Ls (.int x :: st) :=
  W.via rfl n fun T h hx hby tg hr => XS.i2l h hx rfl (hb hby hd) rfl (by subst hz; exact hr)
theorem W.l2i {x : Int64} {z : Int32} (hd : decode code pc = .ok (.l2i, 1)) (hz : x.toInt32 = z) (n : W G K y code ret R Q As Li cells slots (pc + 1) Ls (.int z :: st)) : W G K y code ret R Q As Li cells slots pc Ls (.long x :: st) :=
  W.via rfl n fun T h hx hby tg hr => XS.l2i h hx rfl (hb hby hd) rfl (by subst hz; exact hr)
theorem W.i2b {x : Int32} {z : Int32} (hd : decode code pc = .ok (.i2b, 1)) (hz : x.toInt8.toInt32 = z) (n : W G K y code ret R Q As Li cells slots (pc + 1) Ls (.int z :: st)) : W G K y code ret R Q As Li cells slots pc Ls (.int x :: st) :=
  W.via rfl n fun T h hx hby tg hr => XS.i2b h hx rfl (hb hby hd) rfl (by subst hz; exact hr)
theorem W.i2c {x : Int32} {z : Int32} (hd : decode code pc = .ok (.i2c, 1)) (hz : x.toUInt32.toUInt16.toUInt32.toInt32 = z) (n : W G K y code ret R Q As Li cells slots (pc + 1) Ls (.int z :: st)) : W G K y code ret R Q As Li cells slots pc Ls (.int x :: st) :=
  W.via rfl n fun T h hx hby tg hr => XS.i2c h hx rfl (hb hby hd) rfl (by subst hz; exact hr)
theorem W.i2s {x : Int32} {z : Int32} (hd : decode code pc = .ok (.i2s, 1)) (hz : x.toInt16.toInt32 = z) (n : W G K y code ret R Q As Li cells slots (pc + 1) Ls (.int z :: st)) : W G K y code ret R Q As Li cells slots pc Ls (.int x :: st) :=
  W.via rfl n fun T h hx hby tg hr => XS.i2s h hx rfl (hb hby hd) rfl (by subst hz; exact hr)
theorem W.lcmp {x u : Int64} {z : Int32} (hd : decode code pc = .ok (.lcmp, 1)) (hz : lcmpW x u = z) (n : W G K y code ret R Q As Li cells slots (pc + 1) Ls (.int z :: st)) : W G K y code ret R Q As Li cells slots pc Ls (.long u :: .long x :: st) :=
  W.via rfl n fun T h hx hby tg hr => XS.lcmp h hx rfl (hb hby hd) rfl (by subst hz; exact hr)
theorem W.lshl {x z : Int64} {u : Int32} (hd : decode code pc = .ok (.lshl, 1)) (hz : x <<< (u &&& 0x3f).toInt64 = z) (n : W G K y code ret R Q As Li cells slots (pc + 1) Ls (.long z :: st)) : W G K y code ret R Q As Li cells slots pc Ls (.int u :: .long x :: st) :=
  W.via rfl n fun T h hx hby tg hr => XS.lshl h hx rfl (hb hby hd) rfl (by subst hz; exact hr)
theorem W.lshr {x z : Int64} {u : Int32} (hd : decode code pc = .ok (.lshr, 1)) (hz : x >>> (u &&& 0x3f).toInt64 = z) (n : W G K y code ret R Q As Li cells slots (pc + 1) Ls (.long z :: st)) : W G K y code ret R Q As Li cells slots pc Ls (.int u :: .long x :: st) :=
  W.via rfl n fun T h hx hby tg hr => XS.lshr h hx rfl (hb hby hd) rfl (by subst hz; exact hr)
theorem W.lushr {x z : Int64} {u : Int32} (hd : decode code pc = .ok (.lushr, 1)) (hz : (x.toUInt64 >>> (u &&& 0x3f).toInt64.toUInt64).toInt64 = z) (n : W G K y code ret R Q As Li cells slots (pc + 1) Ls (.long z :: st)) : W G K y code ret R Q As Li cells slots pc Ls (.int u :: .long x :: st) :=
  W.via rfl n fun T h hx hby tg hr => XS.lushr h hx rfl (hb hby hd) rfl (by subst hz; exact hr)
theorem W.dup {x : Value} (hd : decode code pc = .ok (.dup, 1)) (hc : x.category = 1) (n : W G K y code ret R Q As Li cells slots (pc + 1) Ls (x :: x :: st)) : W G K y code ret R Q As Li cells slots pc Ls (x :: st) :=
  W.via rfl n fun T h hx hby tg hr => XS.dup h hx rfl (hb hby hd) rfl hc hr
theorem W.pop {x : Value} (hd : decode code pc = .ok (.pop, 1)) (hc : x.category = 1) (n : W G K y code ret R Q As Li cells slots (pc + 1) Ls st) : W G K y code ret R Q As Li cells slots pc Ls (x :: st) :=
  W.via rfl n fun T h hx hby tg hr => XS.pop h hx rfl (hb hby hd) rfl hc hr
theorem W.dupX1 {x z : Value} (hd : decode code pc = .ok (.dup_x1, 1)) (hc : x.category = 1) (hc' : z.category = 1) (n : W G K y code ret R Q As Li cells slots (pc + 1) Ls (x :: z :: x :: st)) : W G K y code ret R Q As Li cells slots pc Ls (x :: z :: st) :=
  W.via rfl n fun T h hx hby tg hr => XS.dupX1 h hx rfl (hb hby hd) rfl hc hc' hr
theorem W.dup2 {x z : Value} (hd : decode code pc = .ok (.dup2, 1)) (hc : x.category = 1) (hc' : z.category = 1) (n : W G K y code ret R Q As Li cells slots (pc + 1) Ls (x :: z :: x :: z :: st)) : W G K y code ret R Q As Li cells slots pc Ls (x :: z :: st) :=
  W.via rfl n fun T h hx hby tg hr => Jvm.Free.XT.dup2 h hx rfl (hb hby hd) rfl hc hc' hr
theorem W.goto {o : Int} (pc' : Nat) (hd : decode code pc = .ok (.goto o, 3)) (ho : 0 ≤ (pc : Int) + o) (hp : ((pc : Int) + o).toNat = pc') (n : W G K y code ret R Q As Li cells slots pc' Ls st) : W G K y code ret R Q As Li cells slots pc Ls st :=
  W.via rfl n fun T h hx hby tg hr => XS.goto h hx rfl rfl (hb hby hd) ho hp hr
theorem W.if1 {cd : ClassFile.Cond} {o : Int} {x : Int32} (pc' : Nat) (hd : decode code pc = .ok (.ifCond cd o, 3)) (ho : 0 ≤ (pc : Int) + o) (hp : ((pc : Int) + o).toNat = pc') (hc : ifCond.holds cd x = true) (n : W G K y code ret R Q As Li cells slots pc' Ls st) : W G K y code ret R Q As Li cells slots pc Ls (.int x :: st) :=
  W.via rfl n fun T h hx hby tg hr => XS.ifYes h hx rfl rfl (hb hby hd) rfl hc ho hp hr
theorem W.if0 {cd : ClassFile.Cond} {o : Int} {x : Int32} (hd : decode code pc = .ok (.ifCond cd o, 3)) (hc : ifCond.holds cd x = false) (n : W G K y code ret R Q As Li cells slots (pc + 3) Ls st) : W G K y code ret R Q As Li cells slots pc Ls (.int x :: st) :=
  W.via rfl n fun T h hx hby tg hr => XS.ifNo h hx rfl (hb hby hd) rfl hc hr
theorem W.ic1 {cd : ClassFile.Cond} {o : Int} {x z : Int32} (pc' : Nat) (hd : decode code pc = .ok (.if_icmp cd o, 3)) (ho : 0 ≤ (pc : Int) + o) (hp : ((pc : Int) + o).toNat = pc') (hc : if_icmp.holds cd x z = true) (n : W G K y code ret R Q As Li cells slots pc' Ls st) : W G K y code ret R Q As Li cells slots pc Ls (.int z :: .int x :: st) :=
  W.via rfl n fun T h hx hby tg hr => XS.icmpYes h hx rfl rfl (hb hby hd) rfl hc ho hp hr
theorem W.ic0 {cd : ClassFile.Cond} {o : Int} {x z : Int32} (hd : decode code pc = .ok (.if_icmp cd o, 3)) (hc : if_icmp.holds cd x z = false) (n : W G K y code ret R Q As Li cells slots (pc + 3) Ls st) : W G K y code ret R Q As Li cells slots pc Ls (.int z :: .int x :: st) :=
  W.via rfl n fun T h hx hby tg hr => XS.icmpNo h hx rfl (hb hby hd) rfl hc hr
theorem W.nullY {o : Int} (pc' : Nat) (hd : decode code pc = .ok (.ifnull o, 3)) (ho : 0 ≤ (pc : Int) + o) (hp : ((pc : Int) + o).toNat = pc') (n : W G K y code ret R Q As Li cells slots pc' Ls st) : W G K y code ret R Q As Li cells slots pc Ls (.null :: st) :=
  W.via rfl n fun T h hx hby tg hr => XS.ifnullYes h hx rfl rfl (hb hby hd) rfl ho hp hr
theorem W.nullN {o : Int} {b : Addr} (hd : decode code pc = .ok (.ifnull o, 3)) (n : W G K y code ret R Q As Li cells slots (pc + 3) Ls st) : W G K y code ret R Q As Li cells slots pc Ls (.ref b :: st) :=
  W.via rfl n fun T h hx hby tg hr => XS.ifnullNo h hx rfl (hb hby hd) rfl hr
theorem W.nonnullY {o : Int} {b : Addr} (pc' : Nat) (hd : decode code pc = .ok (.ifnonnull o, 3)) (ho : 0 ≤ (pc : Int) + o) (hp : ((pc : Int) + o).toNat = pc') (n : W G K y code ret R Q As Li cells slots pc' Ls st) : W G K y code ret R Q As Li cells slots pc Ls (.ref b :: st) :=
  W.via rfl n fun T h hx hby tg hr => XS.ifnonnullYes h hx rfl rfl (hb hby hd) rfl ho hp hr
theorem W.nonnullN {o : Int} (hd : decode code pc = .ok (.ifnonnull o, 3)) (n : W G K y code ret R Q As Li cells slots (pc + 3) Ls st) : W G K y code ret R Q As Li cells slots pc Ls (.null :: st) :=
  W.via rfl n fun T h hx hby tg hr => XS.ifnonnullNo h hx rfl (hb hby hd) rfl hr
theorem W.ac1 {cd : ClassFile.ACond} {o : Int} {x z : Value} (pc' : Nat) (hd : decode code pc = .ok (.if_acmp cd o, 3)) (ho : 0 ≤ (pc : Int) + o) (hp : ((pc : Int) + o).toNat = pc') (h1 : x.isRef = true) (h2 : z.isRef = true) (hc : Jvm.Free.XT.acmp cd x z = true) (n : W G K y code ret R Q As Li cells slots pc' Ls st) : W G K y code ret R Q As Li cells slots pc Ls (z :: x :: st) :=
  W.via rfl n fun T h hx hby tg hr => Jvm.Free.XT.acmpYes h hx rfl rfl (hb hby hd) rfl h1 h2 hc ho hp hr
theorem W.ac0 {cd : ClassFile.ACond} {o : Int} {x z : Value} (hd : decode code pc = .ok (.if_acmp cd o, 3)) (h1 : x.isRef = true) (h2 : z.isRef = true) (hc : Jvm.Free.XT.acmp cd x z = false) (n : W G K y code ret R Q As Li cells slots (pc + 3) Ls st) : W G K y code ret R Q As Li cells slots pc Ls (z :: x :: st) :=
  W.via rfl n fun T h hx hby tg hr => Jvm.Free.XT.acmpNo h hx rfl (hb hby hd) rfl h1 h2 hc hr
theorem W.if_eq {o : Int} {x : Int32} (pc' : Nat) (hd : decode code pc = .ok (.ifCond .eq o, 3)) (ho : 0 ≤ (pc : Int) + o) (hp : ((pc : Int) + o).toNat = pc') (n1 : x = (0 : Int32) → W G K y code ret R Q As Li cells slots pc' Ls st) (n0 : ¬ x = (0 : Int32) → W G K y code ret R Q As Li cells slots (pc + 3) Ls st) : W G K y code ret R Q As Li cells slots pc Ls (.int x :: st) := by
  by_cases h : x = (0 : Int32)
  · exact W.if1 pc' hd ho hp ((Jvm.RoadKit.if0 _ _).trans (teq h).1) (n1 h)
  · exact W.if0 hd ((Jvm.RoadKit.if0 _ _).trans (feq h).1) (n0 h)
theorem W.ic_eq {o : Int} {x z : Int32} (pc' : Nat) (hd : decode code pc = .ok (.if_icmp .eq o, 3)) (ho : 0 ≤ (pc : Int) + o) (hp : ((pc : Int) + o).toNat = pc') (n1 : x = z → W G K y code ret R Q As Li cells slots pc' Ls st) (n0 : ¬ x = z → W G K y code ret R Q As Li cells slots (pc + 3) Ls st) : W G K y code ret R Q As Li cells slots pc Ls (.int z :: .int x :: st) := by
  by_cases h : x = z
  · exact W.ic1 pc' hd ho hp (teq h).1 (n1 h)
  · exact W.ic0 hd (feq h).1 (n0 h)
theorem W.if_ne {o : Int} {x : Int32} (pc' : Nat) (hd : decode code pc = .ok (.ifCond .ne o, 3)) (ho : 0 ≤ (pc : Int) + o) (hp : ((pc : Int) + o).toNat = pc') (n1 : ¬ x = (0 : Int32) → W G K y code ret R Q As Li cells slots pc' Ls st) (n0 : x = (0 : Int32) → W G K y code ret R Q As Li cells slots (pc + 3) Ls st) : W G K y code ret R Q As Li cells slots pc Ls (.int x :: st) := by
  by_cases h : x = (0 : Int32)
  · exact W.if0 hd ((Jvm.RoadKit.if0 _ _).trans (teq h).2) (n0 h)
  · exact W.if1 pc' hd ho hp ((Jvm.RoadKit.if0 _ _).trans (feq h).2) (n1 h)
theorem W.ic_ne {o : Int} {x z : Int32} (pc' : Nat) (hd : decode code pc = .ok (.if_icmp .ne o, 3)) (ho : 0 ≤ (pc : Int) + o) (hp : ((pc : Int) + o).toNat = pc') (n1 : ¬ x = z → W G K y code ret R Q As Li cells slots pc' Ls st) (n0 : x = z → W G K y code ret R Q As Li cells slots (pc + 3) Ls st) : W G K y code ret R Q As Li cells slots pc Ls (.int z :: .int x :: st) := by
  by_cases h : x = z
  · exact W.ic0 hd (teq h).2 (n0 h)
  · exact W.ic1 pc' hd ho hp (feq h).2 (n1 h)
theorem W.if_lt {o : Int} {x : Int32} (pc' : Nat) (hd : decode code pc = .ok (.ifCond .lt o, 3)) (ho : 0 ≤ (pc : Int) + o) (hp : ((pc : Int) + o).toNat = pc') (n1 : x < (0 : Int32) → W G K y code ret R Q As Li cells slots pc' Ls st) (n0 : ¬ x < (0 : Int32) → W G K y code ret R Q As Li cells slots (pc + 3) Ls st) : W G K y code ret R Q As Li cells slots pc Ls (.int x :: st) := by
  by_cases h : x < (0 : Int32)
  · exact W.if1 pc' hd ho hp ((Jvm.RoadKit.if0 _ _).trans (tlt h).1) (n1 h)
  · exact W.if0 hd ((Jvm.RoadKit.if0 _ _).trans (flt h).1) (n0 h)
theorem W.ic_lt {o : Int} {x z : Int32} (pc' : Nat) (hd : decode code pc = .ok (.if_icmp .lt o, 3)) (ho : 0 ≤ (pc : Int) + o) (hp : ((pc : Int) + o).toNat = pc') (n1 : x < z → W G K y code ret R Q As Li cells slots pc' Ls st) (n0 : ¬ x < z → W G K y code ret R Q As Li cells slots (pc + 3) Ls st) : W G K y code ret R Q As Li cells slots pc Ls (.int z :: .int x :: st) := by
  by_cases h : x < z
  · exact W.ic1 pc' hd ho hp (tlt h).1 (n1 h)
  · exact W.ic0 hd (flt h).1 (n0 h)
theorem W.if_ge {o : Int} {x : Int32} (pc' : Nat) (hd : decode code pc = .ok (.ifCond .ge o, 3)) (ho : 0 ≤ (pc : Int) + o) (hp : ((pc : Int) + o).toNat = pc') (n1 : ¬ x < (0 : Int32) → W G K y code ret R Q As Li cells slots pc' Ls st) (n0 : x < (0 : Int32) → W G K y code ret R Q As Li cells slots (pc + 3) Ls st) : W G K y code ret R Q As Li cells slots pc Ls (.int x :: st) := by
  by_cases h : x < (0 : Int32)
  · exact W.if0 hd ((Jvm.RoadKit.if0 _ _).trans (tlt h).2.1) (n0 h)
  · exact W.if1 pc' hd ho hp ((Jvm.RoadKit.if0 _ _).trans (flt h).2.1) (n1 h)
theorem W.ic_ge {o : Int} {x z : Int32} (pc' : Nat) (hd : decode code pc = .ok (.if_icmp .ge o, 3)) (ho : 0 ≤ (pc : Int) + o) (hp : ((pc : Int) + o).toNat = pc') (n1 : ¬ x < z → W G K y code ret R Q As Li cells slots pc' Ls st) (n0 : x < z → W G K y code ret R Q As Li cells slots (pc + 3) Ls st) : W G K y code ret R Q As Li cells slots pc Ls (.int z :: .int x :: st) := by
  by_cases h : x < z
  · exact W.ic0 hd (tlt h).2.1 (n0 h)
  · exact W.ic1 pc' hd ho hp (flt h).2.1 (n1 h)
theorem W.if_gt {o : Int} {x : Int32} (pc' : Nat) (hd : decode code pc = .ok (.ifCond .gt o, 3)) (ho : 0 ≤ (pc : Int) + o) (hp : ((pc : Int) + o).toNat = pc') (n1 : (0 : Int32) < x → W G K y code ret R Q As Li cells slots pc' Ls st) (n0 : ¬ (0 : Int32) < x → W G K y code ret R Q As Li cells slots (pc + 3) Ls st) : W G K y code ret R Q As Li cells slots pc Ls (.int x :: st) := by
  by_cases h : (0 : Int32) < x
  · exact W.if1 pc' hd ho hp ((Jvm.RoadKit.if0 _ _).trans (tlt h).2.2.1) (n1 h)
  · exact W.if0 hd ((Jvm.RoadKit.if0 _ _).trans (flt h).2.2.1) (n0 h)
theorem W.ic_gt {o : Int} {x z : Int32} (pc' : Nat) (hd : decode code pc = .ok (.if_icmp .gt o, 3)) (ho : 0 ≤ (pc : Int) + o) (hp : ((pc : Int) + o).toNat = pc') (n1 : z < x → W G K y code ret R Q As Li cells slots pc' Ls st) (n0 : ¬ z < x → W G K y code ret R Q As Li cells slots (pc + 3) Ls st) : W G K y code ret R Q As Li cells slots pc Ls (.int z :: .int x :: st) := by
  by_cases h : z < x
  · exact W.ic1 pc' hd ho hp (tlt h).2.2.1 (n1 h)
  · exact W.ic0 hd (flt h).2.2.1 (n0 h)
theorem W.if_le {o : Int} {x : Int32} (pc' : Nat) (hd : decode code pc = .ok (.ifCond .le o, 3)) (ho : 0 ≤ (pc : Int) + o) (hp : ((pc : Int) + o).toNat = pc') (n1 : ¬ (0 : Int32) < x → W G K y code ret R Q As Li cells slots pc' Ls st) (n0 : (0 : Int32) < x → W G K y code ret R Q As Li cells slots (pc + 3) Ls st) : W G K y code ret R Q As Li cells slots pc Ls (.int x :: st) := by
  by_cases h : (0 : Int32) < x
  · exact W.if0 hd ((Jvm.RoadKit.if0 _ _).trans (tlt h).2.2.2) (n0 h)
  · exact W.if1 pc' hd ho hp ((Jvm.RoadKit.if0 _ _).trans (flt h).2.2.2) (n1 h)
theorem W.ic_le {o : Int} {x z : Int32} (pc' : Nat) (hd : decode code pc = .ok (.if_icmp .le o, 3)) (ho : 0 ≤ (pc : Int) + o) (hp : ((pc : Int) + o).toNat = pc') (n1 : ¬ z < x → W G K y code ret R Q As Li cells slots pc' Ls st) (n0 : z < x → W G K y code ret R Q As Li cells slots (pc + 3) Ls st) : W G K y code ret R Q As Li cells slots pc Ls (.int z :: .int x :: st) := by
  by_cases h : z < x
  · exact W.ic0 hd (tlt h).2.2.2 (n0 h)
  · exact W.ic1 pc' hd ho hp (flt h).2.2.2 (n1 h)
end Laws
end Jvm.Own
namespace Jvm.Own
open Sem ClassFile Op Lib Jvm.Stand Jvm.Free Jvm.LawKit Jvm.RoadKit
section Laws
variable {G : Gx} {K : Kx} {y : MethodName} {code : ByteArray} {ret : Option FieldType} {R : Room} {Q : Qx} {As As' : List Ent} {Li Li' : List LitE} {cells slots pc pc' : Nat} {Ls Ls' : List Slot} {st st' : List Value}
variable {a b : Addr} {w : Bool} {C O n d R0 host : String} {v x : Value} {fs : List Fd} {vs vs' : List Value} {t ty : FieldType} {idx kk : Nat}
theorem ok_Z {vm0 : Vm} {k0 mL : Nat} (ok : Ok G K y code mL ret) (hS : K.s.Since vm0 k0) : G.Z.Warmed39 (K.s.setVm vm0).vm := State.Warmed39.trans ok.2.2.2.1 hS.1
theorem ok_own {vm0 : Vm} {k0 mL : Nat} (ok : Ok G K y code mL ret) (hS : K.s.Since vm0 k0) : (K.s.setVm vm0).vm.findClass y.cls = some K.m.cls := by
  show vm0.findClass y.cls = _
  rw [hS.1.alike.findClass]; exact ok.2.2.2.2.1
/-! ### fields -/
theorem W.getF (wl : (Cond.fieldLink y.cls idx R0 n d).before G.a0 G.Z = true ∨ (Cond.fieldLinkNest y.cls idx R0 n d host).before G.a0 G.Z = true) (via : Via G.Z R0 O n d) (hd : decode code pc = .ok (.getfield idx, 3))
    (hm : (a, w, obj C fs vs) ∈ As) (hf : FAt fs vs O n d v) (nx : W G K y code ret R Q As Li cells slots (pc + 3) Ls (v :: st)) : W G K y code ret R Q As Li cells slots pc Ls (.ref a :: st) := by
  intro T vm0 k0 locs ok X hS hk hN hI hL hF
  obtain ⟨T', X', e', st'⟩ := Jvm.RoadKit.getF X ok.1 (ok_Z ok hS) (ok_own ok hS) wl via rfl (hI.fld hm hf) (g := mkF K.m pc Ls.toArray (.ref a :: st)) rfl rfl (hb ok.2.1 hd)
  obtain ⟨U, u, h1, h2⟩ := nx T' vm0 k0 locs ok X' hS (by rw [e']; exact hk) hN (by rw [e']; exact hI) hL hF
  exact ⟨U, u, st' _ h1, h2⟩
/-- .. of an object that stood at the start -/
theorem W.getFo (wl : (Cond.fieldLink y.cls idx R0 n d).before G.a0 G.Z = true ∨ (Cond.fieldLinkNest y.cls idx R0 n d host).before G.a0 G.Z = true) (via : Via G.Z R0 O n d) (hd : decode code pc = .ok (.getfield idx, 3))
    (F : Fld G.Z G.Z.heap a O n d v) (nx : W G K y code ret R Q As Li cells slots (pc + 3) Ls (v :: st)) : W G K y code ret R Q As Li cells slots pc Ls (.ref a :: st) := by
  intro T vm0 k0 locs ok X hS hk hN hI hL hF
  obtain ⟨T', X', e', st'⟩ := Jvm.RoadKit.getF X ok.1 (ok_Z ok hS) (ok_own ok hS) wl via rfl (F.ext hI.old) (g := mkF K.m pc Ls.toArray (.ref a :: st)) rfl rfl (hb ok.2.1 hd)
  obtain ⟨U, u, h1, h2⟩ := nx T' vm0 k0 locs ok X' hS (by rw [e']; exact hk) hN (by rw [e']; exact hI) hL hF
  exact ⟨U, u, st' _ h1, h2⟩
theorem W.putF (wl : (Cond.fieldLink y.cls idx R0 n d).before G.a0 G.Z = true ∨ (Cond.fieldLinkNest y.cls idx R0 n d host).before G.a0 G.Z = true) (via : Via G.Z R0 O n d) (hd : decode code pc = .ok (.putfield idx, 3))
    (L : (Cond.lays C O n d).before G.a0 G.Z = true ∨ ((Cond.laysFinal C O n d).before G.a0 G.Z = true ∧ y.cls = O ∧ y.name = "<init>")) (wi : (Cond.instantiable C kk).before G.a0 G.Z = true)
    (hty : parseFieldDescriptor d = some ty) (hn : narrow ty x = x) (hf : fits ty x = true)
    (u : Upd As a (obj C fs vs) (obj C fs vs') As') (q : FUp fs vs O n d x vs') (nx : W G K y code ret R Q As' Li cells slots (pc + 3) Ls st) : W G K y code ret R Q As Li cells slots pc Ls (x :: .ref a :: st) := by
  intro T vm0 k0 locs ok X hS hk hN hI hL hF
  have hm := u.mem
  obtain ⟨i, q1, q2, -⟩ := id q
  have F0 : Fld G.Z T.heap a O n d vs[i] := (hI.2.2 _ hm).2.2.2.1 i _ _ q1 (List.getElem?_eq_getElem q2)
  obtain ⟨T', h', X', e', W', st'⟩ := Jvm.RoadKit.putF X ok.1 (ok_Z ok hS) (ok_own ok hS) wl via rfl F0 (hI.exa hm) (L.imp id fun r => ⟨r.1, r.2.1, ok.2.2.2.2.2.1.trans r.2.2⟩) wi hty hn hf (g := mkF K.m pc Ls.toArray (x :: .ref a :: st)) rfl rfl (hb ok.2.1 hd)
  obtain ⟨U, u', h1, h2⟩ := nx T' vm0 k0 _ ok X' hS (by rw [e', W'.size]; exact hk) hN (by rw [e']; exact hI.wrF u q W') hL (Fr.snoc X' hF ((hI.2.2 _ hm).1 rfl))
  exact ⟨U, u', st' _ h1, h2⟩
/-- a boolean, byte, char or short: what the field keeps of the int -/
theorem W.putN (wl : (Cond.fieldLink y.cls idx R0 n d).before G.a0 G.Z = true) (via : Via G.Z R0 O n d) (hd : decode code pc = .ok (.putfield idx, 3))
    (L : (Cond.lays C O n d).before G.a0 G.Z = true ∨ ((Cond.laysFinal C O n d).before G.a0 G.Z = true ∧ y.cls = O ∧ y.name = "<init>")) (wi : (Cond.instantiable C kk).before G.a0 G.Z = true)
    {x' : Value} (hty : parseFieldDescriptor d = some ty) (hn : narrow ty x = x') (hf : fits ty x' = true)
    (u : Upd As a (obj C fs vs) (obj C fs vs') As') (q : FUp fs vs O n d x' vs') (nx : W G K y code ret R Q As' Li cells slots (pc + 3) Ls st) : W G K y code ret R Q As Li cells slots pc Ls (x :: .ref a :: st) := by
  intro T vm0 k0 locs ok X hS hk hN hI hL hF
  have hm := u.mem
  obtain ⟨i, q1, q2, -⟩ := id q
  have F0 : Fld G.Z T.heap a O n d vs[i] := (hI.2.2 _ hm).2.2.2.1 i _ _ q1 (List.getElem?_eq_getElem q2)
  obtain ⟨T', h', X', e', W', st'⟩ := Jvm.RoadKit.putFN X ok.1 (ok_Z ok hS) (ok_own ok hS) wl via rfl F0 (hI.exa hm) (L.imp id fun r => ⟨r.1, r.2.1, ok.2.2.2.2.2.1.trans r.2.2⟩) wi hty hn hf (g := mkF K.m pc Ls.toArray (x :: .ref a :: st)) rfl rfl (hb ok.2.1 hd)
  obtain ⟨U, u', h1, h2⟩ := nx T' vm0 k0 _ ok X' hS (by rw [e', W'.size]; exact hk) hN (by rw [e']; exact hI.wrF u q W') hL (Fr.snoc X' hF ((hI.2.2 _ hm).1 rfl))
  exact ⟨U, u', st' _ h1, h2⟩
theorem W.getS (wl : (Cond.fieldLink y.cls idx R0 n d).before G.a0 G.Z = true ∨ (Cond.fieldLinkNest y.cls idx R0 n d host).before G.a0 G.Z = true) (via : Via G.Z R0 O n d) (hd : decode code pc = .ok (.getstatic idx, 3))
    (F : Sta G.Z G.Z.heap O n d v) (nx : W G K y code ret R Q As Li cells slots (pc + 3) Ls (v :: st)) : W G K y code ret R Q As Li cells slots pc Ls st := by
  intro T vm0 k0 locs ok X hS hk hN hI hL hF
  obtain ⟨T', X', e', st'⟩ := getS2 X ok.1 (ok_Z ok hS) (ok_own ok hS) wl via rfl (F.ext hI.old) (g := mkF K.m pc Ls.toArray st) rfl (hb ok.2.1 hd)
  obtain ⟨U, u, h1, h2⟩ := nx T' vm0 k0 locs ok X' hS (by rw [e']; exact hk) hN (by rw [e']; exact hI) hL hF
  exact ⟨U, u, st' _ h1, h2⟩
/-! ### objects and arrays are made -/
def dv (d : String) : Value := defaultValue ((parseFieldDescriptor d).getD .int)
theorem W.new (wl : (Cond.classLink y.cls idx C).before G.a0 G.Z = true) (wi : (Cond.instantiable C kk).before G.a0 G.Z = true) (wz : (Cond.initialized C).before G.a0 G.Z = true) (hd : decode code pc = .ok (.new idx, 3))
    (hl : LaidAll G.Z G.a0 C fs) (hv : (fs.map fun f => dv f.2.2) = vs) (hc : cells + 1 ≤ R.cells) (hs : slots + kk ≤ R.slots)
    (nx : ∀ a, W G K y code ret R Q ((a, true, obj C fs vs) :: As) Li (cells + 1) (slots + kk) (pc + 3) Ls (.ref a :: st)) : W G K y code ret R Q As Li cells slots pc Ls st := by
  intro T vm0 k0 locs ok X hS hk hN hI hL hF
  obtain ⟨T', h', X', e', E, A, D, -, st'⟩ := newO X ok.1 (ok_Z ok hS) (ok_own ok hS) wl wi wz rfl (g := mkF K.m pc Ls.toArray st) rfl (hb ok.2.1 hd) hc hs
  have hD : Des G.Z G.a0 h' T.heap.size true (obj C fs vs) := by
    subst hv
    refine ⟨A, by simp, fun i f v hf hv => ?_, fun _ => hl⟩
    rw [List.getElem?_map, hf] at hv
    cases hv
    obtain ⟨L1, t, ht⟩ := hl.2 f (List.mem_of_getElem? hf)
    have q := D L1 ht
    simpa [dv, ht] using q
  obtain ⟨U, u, h1, h2⟩ := nx T.heap.size T' vm0 k0 locs ok X' hS (by rw [e']; exact Nat.le_trans hk E.1) hN (by rw [e']; exact hI.push E hD) hL hF
  exact ⟨U, u, st' _ h1, h2⟩
theorem AV.of_new {Z : State} {h : Heap} {cA : ClassId} {z : Int32} (A : Arr Z h a (newA cA t z) t) (hO : ∀ C, t = .object C → Ovr Z cA C) : AV Z h a true t (List.replicate z.toNatClampNeg (defaultValue t)) := by
  refine ⟨_, A, by simp [newA], ?_, fun v hv => ?_, fun _ => hO⟩
  · have := Int32.toInt_lt z
    rw [List.length_replicate]; simp only [Int32.toNatClampNeg]; omega
  · rw [List.eq_of_mem_replicate hv]; cases t <;> rfl
theorem W.newP {aty : ArrayType} {z : Int32} (cap : Nat) (wl : (Cond.arrayClass (newarray.typeOf aty)).before G.a0 G.Z = true) (hd : decode code pc = .ok (.newarray aty, 2)) (ht : newarray.typeOf aty = t) (hz : ¬ z < 0) (hcap : z.toNatClampNeg ≤ cap) (hb8 : cap * 8 ≤ 536870912)
    (hv : List.replicate z.toNatClampNeg (defaultValue t) = vs) (hc : cells + 1 ≤ R.cells) (hs : slots + cap ≤ R.slots)
    (nx : ∀ a, W G K y code ret R Q ((a, true, arr t vs) :: As) Li (cells + 1) (slots + cap) (pc + 2) Ls (.ref a :: st)) : W G K y code ret R Q As Li cells slots pc Ls (.int z :: st) := by
  intro T vm0 k0 locs ok X hS hk hN hI hL hF
  obtain ⟨T', h', cA, X', e', E, A, st'⟩ := Jvm.RoadKit.newP X ok.1 (ok_Z ok hS) wl rfl (g := mkF K.m pc Ls.toArray (.int z :: st)) rfl (hb ok.2.1 hd) rfl hz hcap hb8 hc hs
  have hD : Des G.Z G.a0 h' T.heap.size true (arr t vs) := by
    subst hv; subst ht
    exact AV.of_new A (fun C e => by cases aty <;> cases e)
  obtain ⟨U, u, h1, h2⟩ := nx T.heap.size T' vm0 k0 locs ok X' hS (by rw [e']; exact Nat.le_trans hk E.1) hN (by rw [e']; exact hI.push E hD) hL hF
  exact ⟨U, u, st' _ h1, h2⟩
theorem W.newR {z : Int32} (cap : Nat) (wl : (Cond.classLink y.cls idx C).before G.a0 G.Z = true) (wo : (Cond.arrayOver (.object C)).before G.a0 G.Z = true) (hd : decode code pc = .ok (.anewarray idx, 3)) (hz : ¬ z < 0) (hcap : z.toNatClampNeg ≤ cap) (hb8 : cap * 8 ≤ 536870912)
    (hv : List.replicate z.toNatClampNeg Value.null = vs) (hc : cells + 1 ≤ R.cells) (hs : slots + cap ≤ R.slots)
    (nx : ∀ a, W G K y code ret R Q ((a, true, arr (.object C) vs) :: As) Li (cells + 1) (slots + cap) (pc + 3) Ls (.ref a :: st)) : W G K y code ret R Q As Li cells slots pc Ls (.int z :: st) := by
  intro T vm0 k0 locs ok X hS hk hN hI hL hF
  obtain ⟨T', h', cA, X', e', E, A, O, st'⟩ := Jvm.RoadKit.newR X ok.1 (ok_Z ok hS) (ok_own ok hS) wl wo rfl (g := mkF K.m pc Ls.toArray (.int z :: st)) rfl (hb ok.2.1 hd) rfl hz hcap hb8 hc hs
  have hD : Des G.Z G.a0 h' T.heap.size true (arr (.object C) vs) := by
    subst hv
    exact AV.of_new A (fun C' e => by cases e; exact O)
  obtain ⟨U, u, h1, h2⟩ := nx T.heap.size T' vm0 k0 locs ok X' hS (by rw [e']; exact Nat.le_trans hk E.1) hN (by rw [e']; exact hI.push E hD) hL hF
  exact ⟨U, u, st' _ h1, h2⟩
/-! ### arrays -/
theorem size_of {c : Cell} (e : c.slots.toList = vs) : c.slots.size = vs.length := by rw [← e]; simp
/-- what the walk knows of an array: its own, or one that stood at the start -/
def AVin (G : Gx) (As : List Ent) (a : Addr) (t : FieldType) (vs : List Value) : Prop := (∃ w, (a, w, arr t vs) ∈ As) ∨ AV G.Z G.Z.heap a false t vs
theorem AVin.mem (hm : (a, w, arr t vs) ∈ As) : AVin G As a t vs := Or.inl ⟨w, hm⟩
theorem AVin.old (A : AV G.Z G.Z.heap a false t vs) : AVin G As a t vs := Or.inr A
theorem AVin.get {h : Heap} (q : AVin G As a t vs) (I : Inv G As h) : AV G.Z h a false t vs := by
  rcases q with ⟨w, hm⟩ | ⟨c, A, r⟩
  · obtain ⟨c, A, e1, e2, e3, -⟩ := I.av hm
    exact ⟨c, A, e1, e2, e3, fun q => nomatch q⟩
  · exact ⟨c, A.ext I.old, r⟩
theorem W.alen {z : Int32} (hd : decode code pc = .ok (.arraylength, 1)) (hm : AVin G As a t vs) (hz : vs.length.toInt32 = z) (nx : W G K y code ret R Q As Li cells slots (pc + 1) Ls (.int z :: st)) : W G K y code ret R Q As Li cells slots pc Ls (.ref a :: st) := by
  intro T vm0 k0 locs ok X hS hk hN hI hL hF
  obtain ⟨c, A, e1, e2, e3, e4⟩ := hm.get hI
  obtain ⟨U, u, h1, h2⟩ := nx T vm0 k0 locs ok X hS hk hN hI hL hF
  refine ⟨U, u, X.arraylength ok.1 A.1 (State.isArrayOf_alike (ok_Z ok hS).alike A.2.1) (g := mkF K.m pc Ls.toArray (.ref a :: st)) rfl rfl (hb ok.2.1 hd) _ ?_, h2⟩
  rw [size_of e1, hz]; exact h1
theorem in_of {c : Cell} {j : Int32} (e : c.slots.toList = vs) (hj : ¬ j < 0) (hv : vs[j.toNatClampNeg]? = some v) : ¬ (j < 0 ∨ c.slots.size ≤ j.toNatClampNeg) ∧ c.slots[j.toNatClampNeg]? = some v := by
  refine ⟨fun q => q.elim hj fun r => ?_, ?_⟩
  · rw [size_of e] at r; exact absurd (List.getElem?_eq_some_iff.mp hv).1 (Nat.not_lt.mpr r)
  · rw [← Array.getElem?_toList, e]; exact hv
theorem W.iaload {j : Int32} (hd : decode code pc = .ok (.iaload, 1)) (hm : AVin G As a .int vs) (hj : ¬ j < 0) (hv : vs[j.toNatClampNeg]? = some v) (nx : W G K y code ret R Q As Li cells slots (pc + 1) Ls (v :: st)) : W G K y code ret R Q As Li cells slots pc Ls (.int j :: .ref a :: st) := by
  intro T vm0 k0 locs ok X hS hk hN hI hL hF
  obtain ⟨c, A, e1, -⟩ := hm.get hI
  obtain ⟨i1, i2⟩ := in_of e1 hj hv
  obtain ⟨U, u, h1, h2⟩ := nx T vm0 k0 locs ok X hS hk hN hI hL hF
  exact ⟨U, u, X.iaload ok.1 A.1 (State.isArrayOf_alike (ok_Z ok hS).alike A.2.1) A.2.2 i1 i2 (g := mkF K.m pc Ls.toArray (.int j :: .ref a :: st)) rfl rfl (hb ok.2.1 hd) _ h1, h2⟩
theorem W.laload {j : Int32} (hd : decode code pc = .ok (.laload, 1)) (hm : AVin G As a .long vs) (hj : ¬ j < 0) (hv : vs[j.toNatClampNeg]? = some v) (nx : W G K y code ret R Q As Li cells slots (pc + 1) Ls (v :: st)) : W G K y code ret R Q As Li cells slots pc Ls (.int j :: .ref a :: st) := by
  intro T vm0 k0 locs ok X hS hk hN hI hL hF
  obtain ⟨c, A, e1, -⟩ := hm.get hI
  obtain ⟨i1, i2⟩ := in_of e1 hj hv
  obtain ⟨U, u, h1, h2⟩ := nx T vm0 k0 locs ok X hS hk hN hI hL hF
  exact ⟨U, u, X.laload ok.1 A.1 (State.isArrayOf_alike (ok_Z ok hS).alike A.2.1) A.2.2 i1 i2 (g := mkF K.m pc Ls.toArray (.int j :: .ref a :: st)) rfl rfl (hb ok.2.1 hd) _ h1, h2⟩
theorem W.caload {j : Int32} (hd : decode code pc = .ok (.caload, 1)) (hm : AVin G As a .char vs) (hj : ¬ j < 0) (hv : vs[j.toNatClampNeg]? = some v) (nx : W G K y code ret R Q As Li cells slots (pc + 1) Ls (v :: st)) : W G K y code ret R Q As Li cells slots pc Ls (.int j :: .ref a :: st) := by
  intro T vm0 k0 locs ok X hS hk hN hI hL hF
  obtain ⟨c, A, e1, -⟩ := hm.get hI
  obtain ⟨i1, i2⟩ := in_of e1 hj hv
  obtain ⟨U, u, h1, h2⟩ := nx T vm0 k0 locs ok X hS hk hN hI hL hF
  exact ⟨U, u, X.caload ok.1 A.1 (State.isArrayOf_alike (ok_Z ok hS).alike A.2.1) A.2.2 i1 i2 (g := mkF K.m pc Ls.toArray (.int j :: .ref a :: st)) rfl rfl (hb ok.2.1 hd) _ h1, h2⟩
theorem W.saload {j : Int32} (hd : decode code pc = .ok (.saload, 1)) (hm : AVin G As a .short vs) (hj : ¬ j < 0) (hv : vs[j.toNatClampNeg]? = some v) (nx : W G K y code ret R Q As Li cells slots (pc + 1) Ls (v :: st)) : W G K y code ret R Q As Li cells slots pc Ls (.int j :: .ref a :: st) := by
  intro T vm0 k0 locs ok X hS hk hN hI hL hF
  obtain ⟨c, A, e1, -⟩ := hm.get hI
  obtain ⟨i1, i2⟩ := in_of e1 hj hv
  obtain ⟨U, u, h1, h2⟩ := nx T vm0 k0 locs ok X hS hk hN hI hL hF
  exact ⟨U, u, X.saload ok.1 A.1 (State.isArrayOf_alike (ok_Z ok hS).alike A.2.1) A.2.2 i1 i2 (g := mkF K.m pc Ls.toArray (.int j :: .ref a :: st)) rfl rfl (hb ok.2.1 hd) _ h1, h2⟩
theorem W.baload {j : Int32} (hd : decode code pc = .ok (.baload, 1)) (hm : AVin G As a .byte vs) (hj : ¬ j < 0) (hv : vs[j.toNatClampNeg]? = some v) (nx : W G K y code ret R Q As Li cells slots (pc + 1) Ls (v :: st)) : W G K y code ret R Q As Li cells slots pc Ls (.int j :: .ref a :: st) := by
  intro T vm0 k0 locs ok X hS hk hN hI hL hF
  obtain ⟨c, A, e1, -⟩ := hm.get hI
  obtain ⟨i1, i2⟩ := in_of e1 hj hv
  obtain ⟨U, u, h1, h2⟩ := nx T vm0 k0 locs ok X hS hk hN hI hL hF
  exact ⟨U, u, X.baloadBytes ok.1 A.1 (State.isArrayOf_alike (ok_Z ok hS).alike A.2.1) A.2.2 i1 i2 (g := mkF K.m pc Ls.toArray (.int j :: .ref a :: st)) rfl rfl (hb ok.2.1 hd) _ h1, h2⟩
theorem W.aaload {j : Int32} (hd : decode code pc = .ok (.aaload, 1)) (hm : AVin G As a t vs) (hr : t.isReference = true) (hj : ¬ j < 0) (hv : vs[j.toNatClampNeg]? = some v) (nx : W G K y code ret R Q As Li cells slots (pc + 1) Ls (v :: st)) : W G K y code ret R Q As Li cells slots pc Ls (.int j :: .ref a :: st) := by
  intro T vm0 k0 locs ok X hS hk hN hI hL hF
  obtain ⟨c, A, e1, -⟩ := hm.get hI
  obtain ⟨i1, i2⟩ := in_of e1 hj hv
  obtain ⟨U, u, h1, h2⟩ := nx T vm0 k0 locs ok X hS hk hN hI hL hF
  exact ⟨U, u, X.aaload ok.1 A.1 (State.isArrayOf_alike (ok_Z ok hS).alike A.2.1) hr A.2.2 i1 i2 (g := mkF K.m pc Ls.toArray (.int j :: .ref a :: st)) rfl rfl (hb ok.2.1 hd) _ h1, h2⟩
theorem W.iastore {j z : Int32} {i : Nat} {u : Value} (hd : decode code pc = .ok (.iastore, 1)) (hj : ¬ j < 0) (hi : j.toNatClampNeg = i) (hl : i < vs.length) (hu : (.int z) = u) (hv : vs.set i u = vs') (up : Upd As a (arr .int vs) (arr .int vs') As')
    (nx : W G K y code ret R Q As' Li cells slots (pc + 1) Ls st) : W G K y code ret R Q As Li cells slots pc Ls (.int z :: .int j :: .ref a :: st) := by
  intro T vm0 k0 locs ok X hS hk hN hI hL hF
  have hm := up.mem
  obtain ⟨c, A, e1, e2, e3, e4⟩ := hI.av hm
  subst hi; subst hu; subst hv
  have i1 : ¬ (j < 0 ∨ c.slots.size ≤ j.toNatClampNeg) := fun q => q.elim hj fun r => by rw [size_of e1] at r; exact absurd hl (Nat.not_lt.mpr r)
  obtain ⟨T', h', X', e', W', st'⟩ := stI X ok.1 (ok_Z ok hS) rfl A i1 (g := mkF K.m pc Ls.toArray (.int z :: .int j :: .ref a :: st)) rfl rfl (hb ok.2.1 hd)
  obtain ⟨U, u', h1, h2⟩ := nx T' vm0 k0 _ ok X' hS (by rw [e', W'.size]; exact hk) hN (by rw [e']; exact hI.wrA A up rfl W') hL (Fr.snoc X' hF ((hI.2.2 _ hm).1 rfl))
  exact ⟨U, u', st' _ h1, h2⟩
theorem W.castore {j z : Int32} {i : Nat} {u : Value} (hd : decode code pc = .ok (.castore, 1)) (hj : ¬ j < 0) (hi : j.toNatClampNeg = i) (hl : i < vs.length) (hu : (.int (nar .char z)) = u) (hv : vs.set i u = vs') (up : Upd As a (arr .char vs) (arr .char vs') As')
    (nx : W G K y code ret R Q As' Li cells slots (pc + 1) Ls st) : W G K y code ret R Q As Li cells slots pc Ls (.int z :: .int j :: .ref a :: st) := by
  intro T vm0 k0 locs ok X hS hk hN hI hL hF
  have hm := up.mem
  obtain ⟨c, A, e1, e2, e3, e4⟩ := hI.av hm
  subst hi; subst hu; subst hv
  have i1 : ¬ (j < 0 ∨ c.slots.size ≤ j.toNatClampNeg) := fun q => q.elim hj fun r => by rw [size_of e1] at r; exact absurd hl (Nat.not_lt.mpr r)
  obtain ⟨T', h', X', e', W', st'⟩ := stC X ok.1 (ok_Z ok hS) rfl A i1 (g := mkF K.m pc Ls.toArray (.int z :: .int j :: .ref a :: st)) rfl rfl (hb ok.2.1 hd)
  obtain ⟨U, u', h1, h2⟩ := nx T' vm0 k0 _ ok X' hS (by rw [e', W'.size]; exact hk) hN (by rw [e']; exact hI.wrA A up (fits_nar_char _) W') hL (Fr.snoc X' hF ((hI.2.2 _ hm).1 rfl))
  exact ⟨U, u', st' _ h1, h2⟩
theorem W.bastore {j z : Int32} {i : Nat} {u : Value} (hd : decode code pc = .ok (.bastore, 1)) (hj : ¬ j < 0) (hi : j.toNatClampNeg = i) (hl : i < vs.length) (hu : (.int (nar .byte z)) = u) (hv : vs.set i u = vs') (up : Upd As a (arr .byte vs) (arr .byte vs') As')
    (nx : W G K y code ret R Q As' Li cells slots (pc + 1) Ls st) : W G K y code ret R Q As Li cells slots pc Ls (.int z :: .int j :: .ref a :: st) := by
  intro T vm0 k0 locs ok X hS hk hN hI hL hF
  have hm := up.mem
  obtain ⟨c, A, e1, e2, e3, e4⟩ := hI.av hm
  subst hi; subst hu; subst hv
  have i1 : ¬ (j < 0 ∨ c.slots.size ≤ j.toNatClampNeg) := fun q => q.elim hj fun r => by rw [size_of e1] at r; exact absurd hl (Nat.not_lt.mpr r)
  obtain ⟨T', h', X', e', W', st'⟩ := stB X ok.1 (ok_Z ok hS) rfl A i1 (g := mkF K.m pc Ls.toArray (.int z :: .int j :: .ref a :: st)) rfl rfl (hb ok.2.1 hd)
  obtain ⟨U, u', h1, h2⟩ := nx T' vm0 k0 _ ok X' hS (by rw [e', W'.size]; exact hk) hN (by rw [e']; exact hI.wrA A up (fits_nar_byte _) W') hL (Fr.snoc X' hF ((hI.2.2 _ hm).1 rfl))
  exact ⟨U, u', st' _ h1, h2⟩
theorem W.sastore {j z : Int32} {i : Nat} {u : Value} (hd : decode code pc = .ok (.sastore, 1)) (hj : ¬ j < 0) (hi : j.toNatClampNeg = i) (hl : i < vs.length) (hu : (.int (nar .short z)) = u) (hv : vs.set i u = vs') (up : Upd As a (arr .short vs) (arr .short vs') As')
    (nx : W G K y code ret R Q As' Li cells slots (pc + 1) Ls st) : W G K y code ret R Q As Li cells slots pc Ls (.int z :: .int j :: .ref a :: st) := by
  intro T vm0 k0 locs ok X hS hk hN hI hL hF
  have hm := up.mem
  obtain ⟨c, A, e1, e2, e3, e4⟩ := hI.av hm
  subst hi; subst hu; subst hv
  have i1 : ¬ (j < 0 ∨ c.slots.size ≤ j.toNatClampNeg) := fun q => q.elim hj fun r => by rw [size_of e1] at r; exact absurd hl (Nat.not_lt.mpr r)
  obtain ⟨T', h', X', e', W', st'⟩ := stS X ok.1 (ok_Z ok hS) rfl A i1 (g := mkF K.m pc Ls.toArray (.int z :: .int j :: .ref a :: st)) rfl rfl (hb ok.2.1 hd)
  obtain ⟨U, u', h1, h2⟩ := nx T' vm0 k0 _ ok X' hS (by rw [e', W'.size]; exact hk) hN (by rw [e']; exact hI.wrA A up (fits_nar_short _) W') hL (Fr.snoc X' hF ((hI.2.2 _ hm).1 rfl))
  exact ⟨U, u', st' _ h1, h2⟩
/-! ### casts -/
/-- what the walk knows of an object's class: its own, or one that stood at the start -/
def Is (G : Gx) (As : List Ent) (a : Addr) (C : String) : Prop := (∃ w fs vs, (a, w, obj C fs vs) ∈ As) ∨ Exa G.Z G.Z.heap a C
theorem Is.mem (hm : (a, w, obj C fs vs) ∈ As) : Is G As a C := Or.inl ⟨w, fs, vs, hm⟩
theorem Is.old (E : Exa G.Z G.Z.heap a C) : Is G As a C := Or.inr E
theorem Is.exa {h : Heap} (q : Is G As a C) (I : Inv G As h) : Exa G.Z h a C := by
  rcases q with ⟨w, fs, vs, hm⟩ | E
  · exact I.exa hm
  · exact E.ext I.old
/-- a reference array takes a reference (aastore's own test): null, or an object of a class that may lie there -/
theorem W.aastore {j : Int32} {i : Nat} (hd : decode code pc = .ok (.aastore, 1)) (hj : ¬ j < 0) (hi : j.toNatClampNeg = i) (hl : i < vs.length) (hr : x = .null ∨ ∃ o D, x = .ref o ∧ Is G As o D ∧ (D = C ∨ (Cond.castable D C).before G.a0 G.Z = true)) (hv : vs.set i x = vs') (up : Upd As a (arr (.object C) vs) (arr (.object C) vs') As')
    (nx : W G K y code ret R Q As' Li cells slots (pc + 1) Ls st) : W G K y code ret R Q As Li cells slots pc Ls (x :: .int j :: .ref a :: st) := by
  intro T vm0 k0 locs ok X hS hk hN hI hL hF
  have hm := up.mem
  obtain ⟨c, A, e1, e2, e3, e4⟩ := hI.av hm
  subst hi; subst hv
  have i1 : ¬ (j < 0 ∨ c.slots.size ≤ j.toNatClampNeg) := fun q => q.elim hj fun r => by rw [size_of e1] at r; exact absurd hl (Nat.not_lt.mpr r)
  have S : Sto G.Z T.heap a x := by
    rcases hr with rfl | ⟨o, D, rfl, q, rfl | q'⟩
    · exact Or.inl rfl
    · exact Sto.of A (e4 rfl _ rfl) (Ins.self (q.exa hI))
    · exact Sto.of A (e4 rfl _ rfl) (Ins.of_exa (q.exa hI) q')
  have hfx : fits (.object C) x = true := by rcases hr with rfl | ⟨o, D, rfl, -⟩ <;> rfl
  obtain ⟨T', h', X', e', W', st'⟩ := stR X ok.1 (ok_Z ok hS) rfl A i1 rfl S (g := mkF K.m pc Ls.toArray (x :: .int j :: .ref a :: st)) rfl rfl (hb ok.2.1 hd)
  obtain ⟨U, u', h1, h2⟩ := nx T' vm0 k0 _ ok X' hS (by rw [e', W'.size]; exact hk) hN (by rw [e']; exact hI.wrA A up hfx W') hL (Fr.snoc X' hF ((hI.2.2 _ hm).1 rfl))
  exact ⟨U, u', st' _ h1, h2⟩
theorem W.castN {g : Nat} (hd : decode code pc = .ok (.checkcast idx, 3)) (nx : W G K y code ret R Q As Li cells slots (pc + 3) Ls (.null :: st)) : W G K y code ret R Q As Li cells slots pc Ls (.null :: st) := by
  intro T vm0 k0 locs ok X hS hk hN hI hL hF
  obtain ⟨U, u, h1, h2⟩ := nx T vm0 k0 locs ok X hS hk hN hI hL hF
  exact ⟨U, u, X.checkcastNull ok.1 (g := mkF K.m pc Ls.toArray (.null :: st)) rfl rfl (hb ok.2.1 hd) _ h1, h2⟩
theorem W.instNull (hd : decode code pc = .ok (.instanceof idx, 3)) (nx : W G K y code ret R Q As Li cells slots (pc + 3) Ls (.int 0 :: st)) : W G K y code ret R Q As Li cells slots pc Ls (.null :: st) := by
  intro T vm0 k0 locs ok X hS hk hN hI hL hF
  obtain ⟨U, u, h1, h2⟩ := nx T vm0 k0 locs ok X hS hk hN hI hL hF
  exact ⟨U, u, X.instanceofNull ok.1 (g := mkF K.m pc Ls.toArray (.null :: st)) rfl rfl (hb ok.2.1 hd) _ h1, h2⟩
theorem W.cast {D : String} (wl : (Cond.classLink y.cls idx D).before G.a0 G.Z = true) (hd : decode code pc = .ok (.checkcast idx, 3)) (hm : Is G As a C) (hc : C = D ∨ (Cond.castable C D).before G.a0 G.Z = true)
    (nx : W G K y code ret R Q As Li cells slots (pc + 3) Ls (.ref a :: st)) : W G K y code ret R Q As Li cells slots pc Ls (.ref a :: st) := by
  intro T vm0 k0 locs ok X hS hk hN hI hL hF
  have E := hm.exa hI
  have F : Ins G.Z T.heap a D true := hc.elim (fun e => by subst e; exact Ins.self E) (fun q => Ins.of_exa E q)
  obtain ⟨T', X', e', st'⟩ := castY X ok.1 (ok_Z ok hS) (ok_own ok hS) wl rfl F (g := mkF K.m pc Ls.toArray (.ref a :: st)) rfl rfl (hb ok.2.1 hd)
  obtain ⟨U, u, h1, h2⟩ := nx T' vm0 k0 locs ok X' hS (by rw [e']; exact hk) hN (by rw [e']; exact hI) hL hF
  exact ⟨U, u, st' _ h1, h2⟩
theorem W.inst {D : String} (wl : (Cond.classLink y.cls idx D).before G.a0 G.Z = true) (hd : decode code pc = .ok (.instanceof idx, 3)) (hm : Is G As a C) (hc : C = D ∨ (Cond.castable C D).before G.a0 G.Z = true)
    (nx : W G K y code ret R Q As Li cells slots (pc + 3) Ls (.int 1 :: st)) : W G K y code ret R Q As Li cells slots pc Ls (.ref a :: st) := by
  intro T vm0 k0 locs ok X hS hk hN hI hL hF
  have E := hm.exa hI
  have F : Ins G.Z T.heap a D true := hc.elim (fun e => by subst e; exact Ins.self E) (fun q => Ins.of_exa E q)
  obtain ⟨T', X', e', st'⟩ := instY X ok.1 (ok_Z ok hS) (ok_own ok hS) wl rfl F (g := mkF K.m pc Ls.toArray (.ref a :: st)) rfl rfl (hb ok.2.1 hd)
  obtain ⟨U, u, h1, h2⟩ := nx T' vm0 k0 locs ok X' hS (by rw [e']; exact hk) hN (by rw [e']; exact hI) hL hF
  exact ⟨U, u, st' _ h1, h2⟩
theorem W.instNo {D : String} (wl : (Cond.classLink y.cls idx D).before G.a0 G.Z = true) (hd : decode code pc = .ok (.instanceof idx, 3)) (hm : Is G As a C) (hc : ∃ c t, G.Z.vm.findClass C = some c ∧ G.Z.vm.findClass D = some t ∧ G.Z.vm.assignable c t = false)
    (nx : W G K y code ret R Q As Li cells slots (pc + 3) Ls (.int 0 :: st)) : W G K y code ret R Q As Li cells slots pc Ls (.ref a :: st) := by
  intro T vm0 k0 locs ok X hS hk hN hI hL hF
  obtain ⟨T', X', e', st'⟩ := Jvm.RoadKit.instNo X ok.1 (ok_Z ok hS) (ok_own ok hS) wl rfl (hm.exa hI) hc (g := mkF K.m pc Ls.toArray (.ref a :: st)) rfl rfl (hb ok.2.1 hd)
  obtain ⟨U, u, h1, h2⟩ := nx T' vm0 k0 locs ok X' hS (by rw [e']; exact hk) hN (by rw [e']; exact hI) hL hF
  exact ⟨U, u, st' _ h1, h2⟩
theorem W.ldcI {z : Int32} (wl : (Cond.constant y.cls idx z).before G.a0 G.Z = true) (hd : decode code pc = .ok (.ldc idx, 2)) (nx : W G K y code ret R Q As Li cells slots (pc + 2) Ls (.int z :: st)) : W G K y code ret R Q As Li cells slots pc Ls st := by
  intro T vm0 k0 locs ok X hS hk hN hI hL hF
  obtain ⟨U, u, h1, h2⟩ := nx T vm0 k0 locs ok X hS hk hN hI hL hF
  exact ⟨U, u, X.ldcInt ok.1 (ok_own ok hS) (mvT (ok_Z ok hS) wl) (g := mkF K.m pc Ls.toArray st) rfl (hb ok.2.1 hd) _ h1, h2⟩
theorem W.ldcJ {z : Int64} (wl : (Cond.constantLong y.cls idx z).before G.a0 G.Z = true) (hd : decode code pc = .ok (.ldc2_w idx, 3)) (nx : W G K y code ret R Q As Li cells slots (pc + 3) Ls (.long z :: st)) : W G K y code ret R Q As Li cells slots pc Ls st := by
  intro T vm0 k0 locs ok X hS hk hN hI hL hF
  obtain ⟨U, u, h1, h2⟩ := nx T vm0 k0 locs ok X hS hk hN hI hL hF
  exact ⟨U, u, X.ldc2Long ok.1 (ok_own ok hS) (mvT (ok_Z ok hS) wl) (g := mkF K.m pc Ls.toArray st) rfl (hb ok.2.1 hd) _ h1, h2⟩
/-! ### returns -/
theorem W.ret0 {T : State} {vm0 : Vm} {k0 : Nat} {locs : List Loc} (u : Option Value) (X : Stand K.p G.l K.e R (K.s.setVm vm0) K.m K.args K.below K.meth K.c T locs cells slots) (hS : K.s.Since vm0 k0) (hk : k0 ≤ T.heap.size) (hN : G.nw = true → K.s.WarmedH vm0) (hI : Inv G As T.heap) (hL : LI G.Z vm0 Li) (hF : Fr G.Z.heap.size locs)
    (hlk : K.meth.locks = false) (hv : K.meth.sig.returnType = none → u = none) (hq : Q u As Li) (hc : cells ≤ R.cells) (hs : slots ≤ R.slots) {t : State}
    (stp : ∀ fs, (∀ (f : JFrame) (acts : List Action), f.method = K.m → f.locked = none → f.entered = [] → (doReturn K.e (T.setTop f) acts u).1 = T.setFrames fs) → Steps K.p.tables K.e K.below t (T.setFrames fs)) : Fini G K R Q t := by
  obtain ⟨fs, hr, hrun, hended, e1, e2, e3, e4⟩ := X.leaveW hS hk (v := u) hv hlk
  exact ⟨T.setFrames fs, u, stp fs hr, hrun, hended, locs, As, Li, hq, hI, hL.warm X.warmed, hF, ⟨e1, e2, e3, e4.mono hc hs⟩, fun nw => State.WarmedH.trans (t := K.s.setVm vm0) (hN nw) X.warmed⟩
theorem W.vret (hd : decode code pc = .ok (.return_, 1)) (hr : ret = none) (hq : Q none As Li) (hc : cells ≤ R.cells) (hs : slots ≤ R.slots) : W G K y code ret R Q As Li cells slots pc Ls [] := by
  intro T vm0 k0 locs ok X hS hk hN hI hL hF
  obtain ⟨ox, ob, -, -, -, -, ort, olk⟩ := ok
  exact W.ret0 none X hS hk hN hI hL hF olk (fun _ => rfl) hq hc hs fun fs h => X.returnOut ox (ort.trans hr) (hb ob hd) h
theorem W.iret {z : Int32} {tt : FieldType} (hd : decode code pc = .ok (.ireturn, 1)) (hr : ret = some tt) (ht : tt = .int ∨ tt = .boolean ∨ tt = .byte ∨ tt = .char ∨ tt = .short) (hn : narrow tt (.int z) = .int z) (hq : Q (some (.int z)) As Li) (hc : cells ≤ R.cells) (hs : slots ≤ R.slots) : W G K y code ret R Q As Li cells slots pc Ls (.int z :: st) := by
  intro T vm0 k0 locs ok X hS hk hN hI hL hF
  obtain ⟨ox, ob, -, -, -, -, ort, olk⟩ := ok
  exact W.ret0 (some (.int z)) X hS hk hN hI hL hF olk (fun q => by rw [ort, hr] at q; cases q) hq hc hs fun fs h => retOut X ox (ort.trans hr) hn (Or.inl ⟨rfl, ht, z, rfl⟩) (hb ob hd) h
theorem W.lret {z : Int64} (hd : decode code pc = .ok (.lreturn, 1)) (hr : ret = some .long) (hq : Q (some (.long z)) As Li) (hc : cells ≤ R.cells) (hs : slots ≤ R.slots) : W G K y code ret R Q As Li cells slots pc Ls (.long z :: st) := by
  intro T vm0 k0 locs ok X hS hk hN hI hL hF
  obtain ⟨ox, ob, -, -, -, -, ort, olk⟩ := ok
  exact W.ret0 (some (.long z)) X hS hk hN hI hL hF olk (fun q => by rw [ort, hr] at q; cases q) hq hc hs fun fs h => retOut X ox (ort.trans hr) rfl (Or.inr (Or.inl ⟨rfl, rfl, z, rfl⟩)) (hb ob hd) h
theorem W.aret {tt : FieldType} (hd : decode code pc = .ok (.areturn, 1)) (hr : ret = some tt) (ht : tt.isReference = true) (hx : x.isRef = true) (hq : Q (some x) As Li) (hc : cells ≤ R.cells) (hs : slots ≤ R.slots) : W G K y code ret R Q As Li cells slots pc Ls (x :: st) := by
  intro T vm0 k0 locs ok X hS hk hN hI hL hF
  obtain ⟨ox, ob, -, -, -, -, ort, olk⟩ := ok
  have hn : narrow tt x = x := by rcases ref_cases hx with rfl | ⟨_, rfl⟩ <;> cases tt <;> rfl
  exact W.ret0 (some x) X hS hk hN hI hL hF olk (fun q => by rw [ort, hr] at q; cases q) hq hc hs fun fs h => retOut X ox (ort.trans hr) hn (Or.inr (Or.inr (Or.inr (Or.inr ⟨rfl, ht, hx⟩)))) (hb ob hd) h
end Laws
end Jvm.Own
namespace Jvm.Own
open Sem ClassFile Op Lib Jvm.Stand Jvm.Free Jvm.LawKit Jvm.RoadKit
/-! ### contracts and calls -/
/-- the contract of y: called with these arguments over this symbolic heap it returns, as Q says -/
def Ct (G : Gx) (ws : List Jvm.Cond) (y : MethodName) (code : ByteArray) (mL : Nat) (ret : Option FieldType) (R : Room) (args : List Value) (As : List Ent) (Li : List LitE) (Q : Qx) : Prop :=
  MetFree G.l y (head1 (Cond.code y code mL ret :: ws) R) (fun a U => a = args.toArray ∧ G.Z.Warmed39 U.vm ∧ Inv G As U.heap ∧ LI G.Z U.vm Li) (fun _ _ _ _ _ => True)
    (fun _ U o U' => ∃ (v : Option Value) (L : List Loc) (As' : List Ent) (Li' : List LitE), o = .returned v ∧ Q v As' Li' ∧ Inv G As' U'.heap ∧ LI G.Z U'.vm Li' ∧ Fr G.Z.heap.size L ∧ ReturnedEndW U o U' L R.cells R.slots ∧ (G.nw = true → U.WarmedH U'.vm))
section Calls
variable {G : Gx} {K : Kx} {y : MethodName} {code : ByteArray} {ret : Option FieldType} {R : Room} {Q : Qx} {As As' : List Ent} {Li Li' : List LitE} {cells slots pc pc' : Nat} {Ls Ls' : List Slot} {st st' : List Value}
theorem Ct.intro {ws : List Jvm.Cond} {mL : Nat} {args : List Value} (hp : plainFor y = true) (he : argsToLocals args.toArray mL = Ls.toArray) (hl : Ls.length = mL) (w : ∀ K, W G K y code ret R Q As Li 0 0 0 Ls []) :
    Ct G ws y code mL ret R args As Li Q := by
  refine MetFree.of_bodySF hp hisR ?_
  intro p e s m args' below meth c s₁ Bd hml0 hP hK
  obtain ⟨rfl, hZ, hI, hL⟩ := hP
  have X0 : Stand p G.l e R s m args.toArray below meth c s₁ [] 0 0 := Stand.of_body Bd
  have e0 : s₁.heap = s.heap := by rw [Bd.state]; rfl
  have ok : Ok G (p, e, s, m, args.toArray, below, meth, c) y code Ls.length ret := ⟨Bd.exec, Bd.bytes, hml0.trans hl.symm, hZ, findClass_of_methodNamed Bd.named, (name_of_methodNamed Bd.named Bd.method).1, Bd.returns, Bd.notSynchronized⟩
  obtain ⟨U, v, h1, h2, h3, L, A, I, h4, h5, h6, h7, h8, h9⟩ := w (p, e, s, m, args.toArray, below, meth, c) s₁ s.vm s.heap.size [] ok X0 ((State.WarmedH.refl s).since _) (by rw [e0]; exact Nat.le_refl _) (fun _ => State.WarmedH.refl s) (by rw [e0]; exact hI) hL (Fr.nil _)
  refine ⟨U, .returned v, ?_, h2, h3, v, L, A, I, rfl, h4, h5, h6, h7, h8, h9⟩
  have hE : entryFrame m args.toArray mL = mkF m 0 Ls.toArray [] := by
    show ({ method := m, pc := 0, locals := argsToLocals args.toArray mL, stack := [], locked := none } : JFrame) = _
    rw [he]
  rw [hE]
  exact h1
theorem Ct.weaken {ws : List Jvm.Cond} {mL : Nat} {args : List Value} {Q' : Qx} (h : Ct G ws y code mL ret R args As Li Q) (q : ∀ v A L, Q v A L → Q' v A L) : Ct G ws y code mL ret R args As Li Q' :=
  MetFree.mono h (fun _ _ h => h) (fun _ _ _ _ _ h => h) fun _ _ _ _ _ ⟨v, L, A, I, h1, h2, h3⟩ => ⟨v, L, A, I, h1, q _ _ _ h2, h3⟩
variable {z : MethodName} {code' : ByteArray} {ret' : Option FieldType} {R' : Room} {mL' : Nat} {Q' : Qx} {argsL rest : List Value} {idx : Nat} {sg : MethodDescriptor}
/-- what a call by its contract asks ahead and gives behind -/
abbrev PreC (G : Gx) (As : List Ent) (Li : List LitE) (R R' : Room) (as' : Array Value) : Pt → Array Value → Prop :=
  fun A a => a = as' ∧ Inv G As A.U.heap ∧ LI G.Z A.U.vm Li ∧ A.cells + R'.cells ≤ R.cells ∧ A.slots + R'.slots ≤ R.slots
abbrev PostC (G : Gx) (R' : Room) (Q' : Qx) : Pt → Array Value → Option Value → Pt → Prop :=
  fun A _ v B => ∃ (L : List Loc) (As' : List Ent) (Li' : List LitE), Q' v As' Li' ∧ Inv G As' B.U.heap ∧ LI G.Z B.U.vm Li' ∧ Fr G.Z.heap.size L ∧ (G.nw = true → A.U.WarmedH B.U.vm) ∧ B.locs = A.locs ++ L ∧ B.cells = A.cells + R'.cells ∧ B.slots = A.slots + R'.slots
theorem backC {p : Program} {e : Env} {below : List Frame} {s : State} {sargs : Array Value} {len Wt : Nat} (hC : Ct G [] z code' mL' ret' R' argsL As Li Q') (hZ : G.Z.Warmed39 s.vm) (wc : (Cond.code z code' mL' ret').before G.a0 G.Z = true) (wz : (Cond.initialized z.cls).before G.a0 G.Z = true)
    (hf : R'.frames + 1 ≤ R.frames) (hl : Wt + (mL' + 11) + R'.locals ≤ R.locals) : BackS G.l R p e below s sargs z len Wt (PreC G As Li R R' argsL.toArray) (PostC G R' Q') :=
  BackS.of_freeW (bytes := code') (maxL := mL') (ret := ret')
    (E := fun _ first o t L k n => k = R'.cells ∧ n = R'.slots ∧ ∃ v, o = .returned v ∧ ∃ As' Li', Q' v As' Li' ∧ Inv G As' t.heap ∧ LI G.Z t.vm Li' ∧ Fr G.Z.heap.size L ∧ (G.nw = true → first.WarmedH t.vm)) hC hf hl
    (fun m meth c A a Y hp => have hU : G.Z.Warmed39 A.U.vm := wtrans hZ Y.warmed
      ⟨by show (Cond.and _ .tt).before a A.U = true; rw [Cond.before_and, mv hU wc]; rfl, mv hU wc, mv hU wz, hp.2.2.2.1, hp.2.2.2.2⟩)
    (fun m meth c A a g mk Y hp => ⟨hp.1, wtrans hZ Y.warmed, hp.2.1, hp.2.2.1⟩) (fun _ _ _ _ _ _ _ _ _ => trivial)
    (fun _ _ _ _ ⟨v, L, A, I, h1, h2, h3, h4, h5, h6, h7⟩ => ⟨L, _, _, h6, rfl, rfl, v, h1, A, I, h2, h3, h4, h5, h7⟩)
    (fun m meth c A a g mk v t L k n Y hp _ _ ⟨e1, e2, v', e3, A', I', q1, q2, q3, q4, q5⟩ => by cases e3; subst e1 e2; exact ⟨L, A', I', q1, q2, q3, q4, q5, rfl, rfl, rfl⟩)
theorem W.after {T : State} {vm0 : Vm} {k0 : Nat} {locs : List Loc} {len : Nat} {as' : Array Value} (ok : Ok G K y code Ls.length ret) (hS : K.s.Since vm0 k0) (hk : k0 ≤ T.heap.size) (hN : G.nw = true → K.s.WarmedH vm0) (hF : Fr G.Z.heap.size locs)
    {v : Option Value} {vm₁ : Vm} {B : Pt} (hW1 : (K.s.setVm vm0).WarmedH vm₁) (X' : Stand K.p G.l K.e R ((K.s.setVm vm0).setVm B.U.vm) K.m K.args K.below K.meth K.c B.U B.locs B.cells B.slots) (hS' : (K.s.setVm vm0).Since B.U.vm B.U.heap.size) (hg : T.heap.size ≤ B.U.heap.size)
    (hP : PostC G R' Q' ⟨T.setVm vm₁, locs, cells, slots⟩ as' v B) (stp : Steps K.p.tables K.e K.below (T.setTop (mkF K.m pc Ls.toArray st)) (B.U.setTop (mkF K.m (pc + len) Ls.toArray (v.toList ++ rest))))
    (nx : ∀ v As' Li', Q' v As' Li' → W G K y code ret R Q As' Li' (cells + R'.cells) (slots + R'.slots) (pc + len) Ls (v.toList ++ rest)) : Fini G K R Q (T.setTop (mkF K.m pc Ls.toArray st)) := by
  obtain ⟨U, L, c, n⟩ := B
  obtain ⟨L', A', I', q1, q2, q3, q4, q5, e1, e2, e3⟩ := hP
  dsimp only [Pt.U, Pt.locs, Pt.cells, Pt.slots] at *
  subst e1 e2 e3
  obtain ⟨V, u, h1, h2⟩ := nx v A' I' q1 U U.vm U.heap.size _ ok X' (hS.trans hS' (Nat.le_trans hk hg)) (Nat.le_refl _) (fun nw => State.WarmedH.trans (t := T.setVm vm₁) (State.WarmedH.trans (t := K.s.setVm vm0) (hN nw) hW1) (q5 nw)) q2 q3 (Fr.app hF q4)
  exact ⟨V, u, stp.trans h1, h2⟩
/-- the weight of what lies under a call's arguments -/
abbrev wt (rest : List Value) : Nat := (rest.map fun v => v.category).sum
theorem wt_le (rest : List Value) : 2 * (0 : Nat) + (rest.map fun v => v.category).sum ≤ wt rest := by simp [wt]
theorem W.callS (hC : Ct G [] z code' mL' ret' R' argsL As Li Q') (hd : decode code pc = .ok (.invokestatic idx, 3)) (wl : (Cond.methodLink y.cls idx z).before G.a0 G.Z = true) (ws : (Cond.static z).before G.a0 G.Z = true) (wz : (Cond.initialized z.cls).before G.a0 G.Z = true) (wc : (Cond.code z code' mL' ret').before G.a0 G.Z = true)
    (hy : z.cls ≠ "java/lang/invoke/MethodHandle" ∧ z.cls ≠ "java/lang/invoke/VarHandle") (hp : parseMethodDescriptor z.desc = some sg) (hn : argsL.length = sg.parameters.length) (hst : st = argsL.reverse ++ rest)
    (hf : R'.frames + 1 ≤ R.frames) (hl : wt rest + (mL' + 11) + R'.locals ≤ R.locals) (hc : cells + R'.cells ≤ R.cells) (hs : slots + R'.slots ≤ R.slots)
    (nx : ∀ v As' Li', Q' v As' Li' → W G K y code ret R Q As' Li' (cells + R'.cells) (slots + R'.slots) (pc + 3) Ls (v.toList ++ rest)) : W G K y code ret R Q As Li cells slots pc Ls st := by
  intro T vm0 k0 locs ok X hS hk hN hI hL hF
  have hZ := ok_Z ok hS
  obtain ⟨v, vm₁, B, hW1, X', hS', hg, hP, stp⟩ := callSS X ok.1 (ok_own ok hS) (mvT hZ wl) (mvT hZ ws) (mvT hZ wz) (mvT hZ wc) hy (backC hC hZ wc wz hf hl) (g := mkF K.m pc Ls.toArray st) rfl (by rw [ok.2.2.1]; simp) (argsL := argsL) (rest := rest) (fun sig h => by cases hp.symm.trans h; exact hn) hst (wt_le rest) (hb ok.2.1 hd) (fun vm₁ hw => ⟨rfl, hI, hL.warm hw, hc, hs⟩)
  exact W.after ok hS hk hN hF hW1 X' hS' hg hP stp nx
theorem mvMN {Z s : State} {a0 args : Array Value} {own host : String} {idx : Nat} {x : MethodName} (hZ : Z.Warmed39 s.vm) (w : (Cond.methodLinkNest own idx x host).before a0 Z = true) : (Cond.methodLinkNest own idx x host).before args s = true := (Cond.methodLinkNest_wide hZ w :)
theorem W.callSN {host : String} (hC : Ct G [] z code' mL' ret' R' argsL As Li Q') (hd : decode code pc = .ok (.invokestatic idx, 3)) (wl : (Cond.methodLinkNest y.cls idx z host).before G.a0 G.Z = true) (ws : (Cond.static z).before G.a0 G.Z = true) (wz : (Cond.initialized z.cls).before G.a0 G.Z = true) (wc : (Cond.code z code' mL' ret').before G.a0 G.Z = true)
    (hy : z.cls ≠ "java/lang/invoke/MethodHandle" ∧ z.cls ≠ "java/lang/invoke/VarHandle") (hp : parseMethodDescriptor z.desc = some sg) (hn : argsL.length = sg.parameters.length) (hst : st = argsL.reverse ++ rest)
    (hf : R'.frames + 1 ≤ R.frames) (hl : wt rest + (mL' + 11) + R'.locals ≤ R.locals) (hc : cells + R'.cells ≤ R.cells) (hs : slots + R'.slots ≤ R.slots)
    (nx : ∀ v As' Li', Q' v As' Li' → W G K y code ret R Q As' Li' (cells + R'.cells) (slots + R'.slots) (pc + 3) Ls (v.toList ++ rest)) : W G K y code ret R Q As Li cells slots pc Ls st := by
  intro T vm0 k0 locs ok X hS hk hN hI hL hF
  have hZ := ok_Z ok hS
  obtain ⟨v, vm₁, B, hW1, X', hS', hg, hP, stp⟩ := callSNS X ok.1 (ok_own ok hS) (mvMN hZ wl) (mvT hZ ws) (mvT hZ wz) (mvT hZ wc) hy (backC hC hZ wc wz hf hl) (g := mkF K.m pc Ls.toArray st) rfl (by rw [ok.2.2.1]; simp) (argsL := argsL) (rest := rest) (fun sig h => by cases hp.symm.trans h; exact hn) hst (wt_le rest) (hb ok.2.1 hd) (fun vm₁ hw => ⟨rfl, hI, hL.warm hw, hc, hs⟩)
  exact W.after ok hS hk hN hF hW1 X' hS' hg hP stp nx
variable {a : Addr} {C : String}
/-- a constructor -/
theorem W.callI (hC : Ct G [] z code' mL' none R' (.ref a :: argsL) As Li Q') (hd : decode code pc = .ok (.invokespecial idx, 3)) (h1 : z.name = "<init>") (wl : (Cond.methodLink y.cls idx z).before G.a0 G.Z = true) (wi : (Cond.instanceMethod z).before G.a0 G.Z = true) (wz : (Cond.initialized z.cls).before G.a0 G.Z = true) (wc : (Cond.code z code' mL' none).before G.a0 G.Z = true)
    (hy : z.cls ≠ "java/lang/invoke/MethodHandle" ∧ z.cls ≠ "java/lang/invoke/VarHandle") (hp : parseMethodDescriptor z.desc = some sg) (hn : argsL.length = sg.parameters.length) (hst : st = argsL.reverse ++ .ref a :: rest)
    (hf : R'.frames + 1 ≤ R.frames) (hl : wt rest + (mL' + 11) + R'.locals ≤ R.locals) (hc : cells + R'.cells ≤ R.cells) (hs : slots + R'.slots ≤ R.slots)
    (nx : ∀ v As' Li', Q' v As' Li' → W G K y code ret R Q As' Li' (cells + R'.cells) (slots + R'.slots) (pc + 3) Ls (v.toList ++ rest)) : W G K y code ret R Q As Li cells slots pc Ls st := by
  intro T vm0 k0 locs ok X hS hk hN hI hL hF
  have hZ := ok_Z ok hS
  obtain ⟨v, vm₁, B, hW1, X', hS', hg, hP, stp⟩ := X.specialBackS ok.1 h1 (ok_own ok hS) (mvT hZ wl) (mvT hZ wi) (mvT hZ wc) hy (backC hC hZ wc wz hf hl) (g := mkF K.m pc Ls.toArray st) rfl (by rw [ok.2.2.1]; simp) (Steps.refl _) (a := a) (argsL := argsL) (rest := rest) (fun sig h => by cases hp.symm.trans h; exact hn) hst (wt_le rest) (hb ok.2.1 hd) (fun vm₁ hw => ⟨rfl, hI, hL.warm hw, hc, hs⟩)
  exact W.after ok hS hk hN hF hW1 X' hS' hg hP stp nx
theorem W.callIN {host : String} (hC : Ct G [] z code' mL' none R' (.ref a :: argsL) As Li Q') (hd : decode code pc = .ok (.invokespecial idx, 3)) (h1 : z.name = "<init>") (wl : (Cond.methodLinkNest y.cls idx z host).before G.a0 G.Z = true) (wi : (Cond.instanceMethod z).before G.a0 G.Z = true) (wz : (Cond.initialized z.cls).before G.a0 G.Z = true) (wc : (Cond.code z code' mL' none).before G.a0 G.Z = true)
    (hy : z.cls ≠ "java/lang/invoke/MethodHandle" ∧ z.cls ≠ "java/lang/invoke/VarHandle") (hp : parseMethodDescriptor z.desc = some sg) (hn : argsL.length = sg.parameters.length) (hst : st = argsL.reverse ++ .ref a :: rest)
    (hf : R'.frames + 1 ≤ R.frames) (hl : wt rest + (mL' + 11) + R'.locals ≤ R.locals) (hc : cells + R'.cells ≤ R.cells) (hs : slots + R'.slots ≤ R.slots)
    (nx : ∀ v As' Li', Q' v As' Li' → W G K y code ret R Q As' Li' (cells + R'.cells) (slots + R'.slots) (pc + 3) Ls (v.toList ++ rest)) : W G K y code ret R Q As Li cells slots pc Ls st := by
  intro T vm0 k0 locs ok X hS hk hN hI hL hF
  have hZ := ok_Z ok hS
  obtain ⟨v, vm₁, B, hW1, X', hS', hg, hP, stp⟩ := X.specialBackNestS ok.1 h1 (ok_own ok hS) (mvMN hZ wl) (mvT hZ wi) (mvT hZ wc) hy (backC hC hZ wc wz hf hl) (g := mkF K.m pc Ls.toArray st) rfl (by rw [ok.2.2.1]; simp) (Steps.refl _) (a := a) (argsL := argsL) (rest := rest) (fun sig h => by cases hp.symm.trans h; exact hn) hst (wt_le rest) (hb ok.2.1 hd) (fun vm₁ hw => ⟨rfl, hI, hL.warm hw, hc, hs⟩)
  exact W.after ok hS hk hN hF hW1 X' hS' hg hP stp nx
/-- java.lang.Object's -/
theorem W.callO (hd : decode code pc = .ok (.invokespecial idx, 3)) (wl : (Cond.methodLink y.cls idx Lib.objectInit).before G.a0 G.Z = true) (wi : (Cond.instanceMethod Lib.objectInit).before G.a0 G.Z = true) (wc : (Cond.code Lib.objectInit ⟨#[0xb1]⟩ 1 none).before G.a0 G.Z = true)
    (hf : 1 ≤ R.frames) (hl : wt st + 12 ≤ R.locals) (nx : W G K y code ret R Q As Li cells slots (pc + 3) Ls st) : W G K y code ret R Q As Li cells slots pc Ls (.ref a :: st) := by
  intro T vm0 k0 locs ok X hS hk hN hI hL hF
  obtain ⟨T', X', e', st'⟩ := initO X ok.1 (ok_Z ok hS) (ok_own ok hS) wl wi wc rfl (g := mkF K.m pc Ls.toArray (.ref a :: st)) rfl (by rw [ok.2.2.1]; simp) rfl (hb ok.2.1 hd) hf (wt_le st) hl
  obtain ⟨U, u, h1, h2⟩ := nx T' vm0 k0 locs ok X' hS (by rw [e']; exact hk) hN (by rw [e']; exact hI) hL hF
  exact ⟨U, u, st' _ h1, h2⟩
/-- an instance method that the receiver's class selects; the entry's class x declares it -/
theorem W.callV {x : MethodName} (hC : Ct G [] z code' mL' ret' R' (.ref a :: argsL) As Li Q') (hd : decode code pc = .ok (.invokevirtual idx, 3)) (hm : Is G As a C) (wl : (Cond.methodLink y.cls idx x).before G.a0 G.Z = true) (wd : (Cond.declares x).before G.a0 G.Z = true) (nf : ∀ s : State, G.Z.Warmed39 s.vm → NotFace s x) (wsel : (Cond.selects C x z).before G.a0 G.Z = true)
    (wi : (Cond.instanceMethod z).before G.a0 G.Z = true) (wz : (Cond.initialized z.cls).before G.a0 G.Z = true) (wc : (Cond.code z code' mL' ret').before G.a0 G.Z = true)
    (hy : x.cls ≠ "java/lang/invoke/MethodHandle" ∧ x.cls ≠ "java/lang/invoke/VarHandle") (hp : parseMethodDescriptor x.desc = some sg) (hn : argsL.length = sg.parameters.length) (hst : st = argsL.reverse ++ .ref a :: rest)
    (hf : R'.frames + 1 ≤ R.frames) (hl : wt rest + (mL' + 11) + R'.locals ≤ R.locals) (hc : cells + R'.cells ≤ R.cells) (hs : slots + R'.slots ≤ R.slots)
    (nx : ∀ v As' Li', Q' v As' Li' → W G K y code ret R Q As' Li' (cells + R'.cells) (slots + R'.slots) (pc + 3) Ls (v.toList ++ rest)) : W G K y code ret R Q As Li cells slots pc Ls st := by
  intro T vm0 k0 locs ok X hS hk hN hI hL hF
  have hZ := ok_Z ok hS
  obtain ⟨cB, kB, q1, q2, q3⟩ := isOf (T := T) hZ rfl (hm.exa hI)
  obtain ⟨v, vm₁, B, hW1, X', hS', hg, hP, stp⟩ := X.virtualBackS ok.1 (ok_own ok hS) (mvT hZ wl) (mvT hZ wd) (nf _ hZ) (mvT hZ wsel) (mvT hZ wi) hy (backC hC hZ wc wz hf hl) q1 q3 (g := mkF K.m pc Ls.toArray st) rfl (by rw [ok.2.2.1]; simp) (Steps.refl _) (argsL := argsL) (rest := rest) (fun sig h => by cases hp.symm.trans h; exact hn) hst (wt_le rest) (hb ok.2.1 hd) (fun vm₁ hw => ⟨rfl, hI, hL.warm hw, hc, hs⟩)
  exact W.after ok hS hk hN hF hW1 X' hS' hg hP stp nx
theorem nf_sel {x : MethodName} (w : (Cond.selects C x x).before G.a0 G.Z = true) : ∀ s : State, G.Z.Warmed39 s.vm → NotFace s x := fun s hZ => notFace_of_selects (args := #[]) (mvT hZ w)
theorem nf_sup {x : MethodName} {S : String} (w : (Cond.superclass x.cls S).before G.a0 G.Z = true) : ∀ s : State, G.Z.Warmed39 s.vm → NotFace s x := fun s hZ => nf_super (args := #[]) (mvT hZ w)
theorem nf_tp {x : MethodName} (w : (Cond.noSuperclass x.cls).before G.a0 G.Z = true) : ∀ s : State, G.Z.Warmed39 s.vm → NotFace s x := fun s hZ => nf_top (args := #[]) (mvT hZ w)
/-- .. declared above the entry's class -/
theorem W.callU {x : MethodName} {owner : String} (hC : Ct G [] z code' mL' ret' R' (.ref a :: argsL) As Li Q') (hd : decode code pc = .ok (.invokevirtual idx, 3)) (hm : Is G As a C) (wl : (Cond.methodLink y.cls idx x).before G.a0 G.Z = true) (wsm : (Cond.sameMethod x.cls owner x.name x.desc).before G.a0 G.Z = true) (wd : (Cond.declares ⟨owner, x.name, x.desc⟩).before G.a0 G.Z = true) (ho : owner ≠ "java/lang/invoke/MethodHandle" ∧ owner ≠ "java/lang/invoke/VarHandle") (wsel : (Cond.selects C x z).before G.a0 G.Z = true)
    (wi : (Cond.instanceMethod z).before G.a0 G.Z = true) (wz : (Cond.initialized z.cls).before G.a0 G.Z = true) (wc : (Cond.code z code' mL' ret').before G.a0 G.Z = true)
    (hp : parseMethodDescriptor x.desc = some sg) (hn : argsL.length = sg.parameters.length) (hst : st = argsL.reverse ++ .ref a :: rest)
    (hf : R'.frames + 1 ≤ R.frames) (hl : wt rest + (mL' + 11) + R'.locals ≤ R.locals) (hc : cells + R'.cells ≤ R.cells) (hs : slots + R'.slots ≤ R.slots)
    (nx : ∀ v As' Li', Q' v As' Li' → W G K y code ret R Q As' Li' (cells + R'.cells) (slots + R'.slots) (pc + 3) Ls (v.toList ++ rest)) : W G K y code ret R Q As Li cells slots pc Ls st := by
  intro T vm0 k0 locs ok X hS hk hN hI hL hF
  have hZ := ok_Z ok hS
  obtain ⟨cB, kB, q1, q2, q3⟩ := isOf (T := T) hZ rfl (hm.exa hI)
  obtain ⟨v, vm₁, B, hW1, X', hS', hg, hP, stp⟩ := X.virtualBackUpS ok.1 (ok_own ok hS) (mvT hZ wl) (mvT hZ wsm) (mvT hZ wd) ho (mvT hZ wsel) (mvT hZ wi) (backC hC hZ wc wz hf hl) q1 q3 (g := mkF K.m pc Ls.toArray st) rfl (by rw [ok.2.2.1]; simp) (Steps.refl _) (argsL := argsL) (rest := rest) (fun sig h => by cases hp.symm.trans h; exact hn) hst (wt_le rest) (hb ok.2.1 hd) (fun vm₁ hw => ⟨rfl, hI, hL.warm hw, hc, hs⟩)
  exact W.after ok hS hk hN hF hW1 X' hS' hg hP stp nx
/-- through an interface -/
theorem W.callF {x : MethodName} {cnt : Nat} (hC : Ct G [] z code' mL' ret' R' (.ref a :: argsL) As Li Q') (hd : decode code pc = .ok (.invokeinterface idx cnt, 5)) (hm : Is G As a C) (wl : (Cond.methodLink y.cls idx x).before G.a0 G.Z = true) (wd : (Cond.declares x).before G.a0 G.Z = true) (wf : (Cond.interfaceMethod x.cls x.cls x.name x.desc).before G.a0 G.Z = true) (wsel : (Cond.selects C x z).before G.a0 G.Z = true)
    (wi : (Cond.instanceMethod z).before G.a0 G.Z = true) (wp : (Cond.publicMethod z).before G.a0 G.Z = true) (wu : (Cond.unhidden C x.name x.desc).before G.a0 G.Z = true) (wk : (Cond.castable C x.cls).before G.a0 G.Z = true) (wz : (Cond.initialized z.cls).before G.a0 G.Z = true) (wc : (Cond.code z code' mL' ret').before G.a0 G.Z = true)
    (hy : x.cls ≠ "java/lang/invoke/MethodHandle" ∧ x.cls ≠ "java/lang/invoke/VarHandle") (hfa : ((Cond.interfaceMethod x.cls x.cls x.name x.desc).onTables && (Cond.interfaceMethod x.cls x.cls x.name x.desc).keepsFace) = true) (hp : parseMethodDescriptor x.desc = some sg) (hn : argsL.length = sg.parameters.length) (hst : st = argsL.reverse ++ .ref a :: rest)
    (hf : R'.frames + 1 ≤ R.frames) (hl : wt rest + (mL' + 11) + R'.locals ≤ R.locals) (hc : cells + R'.cells ≤ R.cells) (hs : slots + R'.slots ≤ R.slots)
    (nx : ∀ v As' Li', Q' v As' Li' → W G K y code ret R Q As' Li' (cells + R'.cells) (slots + R'.slots) (pc + 5) Ls (v.toList ++ rest)) : W G K y code ret R Q As Li cells slots pc Ls st := by
  intro T vm0 k0 locs ok X hS hk hN hI hL hF
  have hZ := ok_Z ok hS
  obtain ⟨cB, kB, q1, q2, q3⟩ := isOf (T := T) hZ rfl (hm.exa hI)
  obtain ⟨v, vm₁, B, hW1, X', hS', hg, hP, stp⟩ := X.interfaceBackS ok.1 (ok_own ok hS) (mvT hZ wl) (mvT hZ wd) (mvT hZ wf hfa) (mvT hZ wsel) (mvT hZ wi) (mvT hZ wp) (mvT hZ wu) (mvT hZ wk) hy (backC hC hZ wc wz hf hl) q1 q2 q3 (g := mkF K.m pc Ls.toArray st) rfl (by rw [ok.2.2.1]; simp) (Steps.refl _) (argsL := argsL) (rest := rest) (fun sig h => by cases hp.symm.trans h; exact hn) hst (wt_le rest) (hb ok.2.1 hd) (fun vm₁ hw => ⟨rfl, hI, hL.warm hw, hc, hs⟩)
  exact W.after ok hS hk hN hF hW1 X' hS' hg hP stp nx
/-- a private method by invokevirtual -/
theorem W.callP (hC : Ct G [] z code' mL' ret' R' (.ref a :: argsL) As Li Q') (hd : decode code pc = .ok (.invokevirtual idx, 3)) (hm : Is G As a C) (wl : (Cond.methodLink y.cls idx z).before G.a0 G.Z = true) (wi : (Cond.instanceMethod z).before G.a0 G.Z = true) (wsel : (Cond.selects z.cls z z).before G.a0 G.Z = true) (wp : (Cond.privateMethod z).before G.a0 G.Z = true) (wz : (Cond.initialized z.cls).before G.a0 G.Z = true) (wc : (Cond.code z code' mL' ret').before G.a0 G.Z = true)
    (hy : z.cls ≠ "java/lang/invoke/MethodHandle" ∧ z.cls ≠ "java/lang/invoke/VarHandle") (hp : parseMethodDescriptor z.desc = some sg) (hn : argsL.length = sg.parameters.length) (hst : st = argsL.reverse ++ .ref a :: rest)
    (hf : R'.frames + 1 ≤ R.frames) (hl : wt rest + (mL' + 11) + R'.locals ≤ R.locals) (hc : cells + R'.cells ≤ R.cells) (hs : slots + R'.slots ≤ R.slots)
    (nx : ∀ v As' Li', Q' v As' Li' → W G K y code ret R Q As' Li' (cells + R'.cells) (slots + R'.slots) (pc + 3) Ls (v.toList ++ rest)) : W G K y code ret R Q As Li cells slots pc Ls st := by
  intro T vm0 k0 locs ok X hS hk hN hI hL hF
  have hZ := ok_Z ok hS
  obtain ⟨cl, q1, q2⟩ := (hm.exa hI).cell
  obtain ⟨v, vm₁, B, hW1, X', hS', hg, hP, stp⟩ := X.privateBackS ok.1 (ok_own ok hS) (mvT hZ wl) (mvT hZ wi) (mvT hZ wsel) (Cond.privateMethod_at (mvP hZ wp (args := #[]))) (mvT hZ wc) hy (backC hC hZ wc wz hf hl) (g := mkF K.m pc Ls.toArray st) rfl (by rw [ok.2.2.1]; simp) (Steps.refl _) (a := a) q1 q2 (argsL := argsL) (rest := rest) (fun sig h => by cases hp.symm.trans h; exact hn) hst (wt_le rest) (hb ok.2.1 hd) (fun vm₁ hw => ⟨rfl, hI, hL.warm hw, hc, hs⟩)
  exact W.after ok hS hk hN hF hW1 X' hS' hg hP stp nx
/-- super.m(..) -/
theorem W.callX (hC : Ct G [] z code' mL' ret' R' (.ref a :: argsL) As Li Q') (hd : decode code pc = .ok (.invokespecial idx, 3)) (hm : Is G As a C) (wl : (Cond.methodLink y.cls idx z).before G.a0 G.Z = true) (wsm : (Cond.sameMethod z.cls z.cls z.name z.desc).before G.a0 G.Z = true) (wi : (Cond.instanceMethod z).before G.a0 G.Z = true) (wsup : (Cond.superclass y.cls z.cls).before G.a0 G.Z = true) (hni : z.name ≠ "<init>") (wz : (Cond.initialized z.cls).before G.a0 G.Z = true) (wc : (Cond.code z code' mL' ret').before G.a0 G.Z = true)
    (hp : parseMethodDescriptor z.desc = some sg) (hn : argsL.length = sg.parameters.length) (hst : st = argsL.reverse ++ .ref a :: rest)
    (hf : R'.frames + 1 ≤ R.frames) (hl : wt rest + (mL' + 11) + R'.locals ≤ R.locals) (hc : cells + R'.cells ≤ R.cells) (hs : slots + R'.slots ≤ R.slots)
    (nx : ∀ v As' Li', Q' v As' Li' → W G K y code ret R Q As' Li' (cells + R'.cells) (slots + R'.slots) (pc + 3) Ls (v.toList ++ rest)) : W G K y code ret R Q As Li cells slots pc Ls st := by
  intro T vm0 k0 locs ok X hS hk hN hI hL hF
  have hZ := ok_Z ok hS
  obtain ⟨v, vm₁, B, hW1, X', hS', hg, hP, stp⟩ := superBackS X ok.1 hZ (ok_own ok hS) wl wsm wi wsup hni (backC hC hZ wc wz hf hl) rfl (Ins.self (hm.exa hI)) (g := mkF K.m pc Ls.toArray st) rfl (by rw [ok.2.2.1]; simp) wc (argsL := argsL) (rest := rest) (fun sig h => by cases hp.symm.trans h; exact hn) hst (wt_le rest) (hb ok.2.1 hd) (fun vm₁ hw => ⟨rfl, hI, hL.warm hw, hc, hs⟩)
  exact W.after ok hS hk hN hF hW1 X' hS' hg hP stp nx
end Calls
end Jvm.Own
namespace Jvm.Own
open Sem ClassFile Op Lib Jvm.Stand Jvm.Free Jvm.LawKit Jvm.RoadKit
/-! ### the case's start -/
theorem Inv.start (l : Launch) (s : State) (a0 : Array Value) (b : Bool) : Inv (l, s, a0, b) [] s.heap := ⟨⟨Nat.le_refl _, fun _ _ q => q⟩, List.Pairwise.nil, fun _ h => nomatch h⟩
theorem LI.start (s : State) : LI s s.vm [] := ⟨IB.start, fun _ h => nomatch h⟩
end Jvm.Own
namespace Jvm.Pilot.@@N@@
open Jvm Jvm.ClassFile Sem Op Lib Jvm.Free Jvm.Stand Jvm.LawKit Jvm.RoadKit Bundle Jvm.Pilot.@@N@@.Jvm.D
def F_java_util_Optional : List Own.Fd := [("java/util/Optional", "value", "Ljava/lang/Object;")]
theorem LF_java_util_Optional (G : Own.Gx) (hw : ∀ d ∈ tables_1, d.before G.a0 G.Z = true) : Own.LaidAll G.Z G.a0 "java/util/Optional" F_java_util_Optional := ⟨by decide, Own.LaidAll.cons (Or.inr (hw _ (List.mem_of_getElem? (i := 25) rfl))) (t := (.object "java/lang/Object")) (by decide) (Own.LaidAll.nil)⟩
def own_vs (es : Nat → Addr) : List Value := (List.range 17).map fun i => Value.ref (es i)
theorem own_vs_at (es : Nat → Addr) {k : Nat} (h : k < 17) : (own_vs es)[k]? = some (.ref (es k)) := by simp [own_vs, h]
theorem own_vs_len (es : Nat → Addr) : (own_vs es).length.toInt32 = 17 := by simp [own_vs]; rfl
/-- what the case says of the program's statics -/
def Stat (G : Own.Gx) (es : Nat → Addr) (bn em : Addr) : Prop :=
  Sta G.Z G.Z.heap "com/example/hedge5/hedge5/StatusCode" "BY_NUMBER" "[Lcom/example/hedge5/hedge5/StatusCode;" (.ref bn) ∧ Own.AV G.Z G.Z.heap bn false (.object "com/example/hedge5/hedge5/StatusCode") (own_vs es) ∧ (Sta G.Z G.Z.heap "java/util/Optional" "EMPTY" "Ljava/util/Optional;" (.ref em) ∧ Exa G.Z G.Z.heap em "java/util/Optional" ∧ Fld G.Z G.Z.heap em "java/util/Optional" "value" "Ljava/lang/Object;" .null)
    ∧ Sta G.Z G.Z.heap "com/example/hedge5/hedge5/StatusCode" "OK" "Lcom/example/hedge5/hedge5/StatusCode;" (.ref (es 0)) ∧ Sta G.Z G.Z.heap "com/example/hedge5/hedge5/StatusCode" "CANCELLED" "Lcom/example/hedge5/hedge5/StatusCode;" (.ref (es 1)) ∧ Sta G.Z G.Z.heap "com/example/hedge5/hedge5/StatusCode" "UNKNOWN" "Lcom/example/hedge5/hedge5/StatusCode;" (.ref (es 2)) ∧ Sta G.Z G.Z.heap "com/example/hedge5/hedge5/StatusCode" "INVALID_ARGUMENT" "Lcom/example/hedge5/hedge5/StatusCode;" (.ref (es 3)) ∧ Sta G.Z G.Z.heap "com/example/hedge5/hedge5/StatusCode" "DEADLINE_EXCEEDED" "Lcom/example/hedge5/hedge5/StatusCode;" (.ref (es 4)) ∧ Sta G.Z G.Z.heap "com/example/hedge5/hedge5/StatusCode" "NOT_FOUND" "Lcom/example/hedge5/hedge5/StatusCode;" (.ref (es 5)) ∧ Sta G.Z G.Z.heap "com/example/hedge5/hedge5/StatusCode" "ALREADY_EXISTS" "Lcom/example/hedge5/hedge5/StatusCode;" (.ref (es 6)) ∧ Sta G.Z G.Z.heap "com/example/hedge5/hedge5/StatusCode" "PERMISSION_DENIED" "Lcom/example/hedge5/hedge5/StatusCode;" (.ref (es 7)) ∧ Sta G.Z G.Z.heap "com/example/hedge5/hedge5/StatusCode" "RESOURCE_EXHAUSTED" "Lcom/example/hedge5/hedge5/StatusCode;" (.ref (es 8)) ∧ Sta G.Z G.Z.heap "com/example/hedge5/hedge5/StatusCode" "FAILED_PRECONDITION" "Lcom/example/hedge5/hedge5/StatusCode;" (.ref (es 9)) ∧ Sta G.Z G.Z.heap "com/example/hedge5/hedge5/StatusCode" "ABORTED" "Lcom/example/hedge5/hedge5/StatusCode;" (.ref (es 10)) ∧ Sta G.Z G.Z.heap "com/example/hedge5/hedge5/StatusCode" "OUT_OF_RANGE" "Lcom/example/hedge5/hedge5/StatusCode;" (.ref (es 11)) ∧ Sta G.Z G.Z.heap "com/example/hedge5/hedge5/StatusCode" "UNIMPLEMENTED" "Lcom/example/hedge5/hedge5/StatusCode;" (.ref (es 12)) ∧ Sta G.Z G.Z.heap "com/example/hedge5/hedge5/StatusCode" "INTERNAL" "Lcom/example/hedge5/hedge5/StatusCode;" (.ref (es 13)) ∧ Sta G.Z G.Z.heap "com/example/hedge5/hedge5/StatusCode" "UNAVAILABLE" "Lcom/example/hedge5/hedge5/StatusCode;" (.ref (es 14)) ∧ Sta G.Z G.Z.heap "com/example/hedge5/hedge5/StatusCode" "DATA_LOSS" "Lcom/example/hedge5/hedge5/StatusCode;" (.ref (es 15)) ∧ Sta G.Z G.Z.heap "com/example/hedge5/hedge5/StatusCode" "UNAUTHENTICATED" "Lcom/example/hedge5/hedge5/StatusCode;" (.ref (es 16))
theorem d3_0 : decode jdk_31_method_10_code 0 = .ok (.aload_n 0, 1) := by decide +kernel
theorem d3_1 : decode jdk_31_method_10_code 1 = .ok (.ifnonnull 11, 3) := by decide +kernel
theorem d3_12 : decode jdk_31_method_10_code 12 = .ok (.aload_n 0, 1) := by decide +kernel
theorem d3_13 : decode jdk_31_method_10_code 13 = .ok (.areturn, 1) := by decide +kernel
theorem pn_98972425 : plainFor (⟨"java/util/Objects", "requireNonNull", "(Ljava/lang/Object;)Ljava/lang/Object;"⟩ : MethodName) = true := by first | exact plainFor_of_name (by first | (simp [plainName, overriddenIn]; done) | decide +kernel) | decide +kernel
set_option maxRecDepth 65536 in
set_option maxHeartbeats 4000000 in
theorem ct_rnn (G : Own.Gx) (hw : ∀ d ∈ tables_1, d.before G.a0 G.Z = true) {As : List Own.Ent} {Li : List Own.LitE} (a : Addr) :
    Own.Ct G [] (⟨"java/util/Objects", "requireNonNull", "(Ljava/lang/Object;)Ljava/lang/Object;"⟩ : MethodName) jdk_31_method_10_code 1 (some (.object "java/lang/Object")) ({ frames := 0, cells := 0, slots := 0, locals := 0 } : Room) [.ref a] As Li (fun v A L => v = some (.ref a) ∧ A = As ∧ L = Li) := by
  refine Own.Ct.intro pn_98972425 (Ls := [.val (.ref a)]) rfl rfl ?_
  intro K
  refine Own.W.aloadN (pc := 0) d3_0 rfl rfl ?_
  refine Own.W.nonnullY (pc := 1) 12 d3_1 (by decide) (by decide) ?_
  refine Own.W.aloadN (pc := 12) d3_12 rfl rfl ?_
  refine Own.W.aret (pc := 13) d3_13 rfl rfl rfl ?_ (Nat.le_of_ble_eq_true rfl) (Nat.le_of_ble_eq_true rfl)
  exact ⟨rfl, rfl, rfl⟩
theorem d4_0 : decode jdk_32_method_2_code 0 = .ok (.aload_n 0, 1) := by decide +kernel
theorem d4_1 : decode jdk_32_method_2_code 1 = .ok (.invokespecial 7, 3) := by decide +kernel
theorem d4_4 : decode jdk_32_method_2_code 4 = .ok (.aload_n 0, 1) := by decide +kernel
theorem d4_5 : decode jdk_32_method_2_code 5 = .ok (.aload_n 1, 1) := by decide +kernel
theorem d4_6 : decode jdk_32_method_2_code 6 = .ok (.putfield 13, 3) := by decide +kernel
theorem d4_9 : decode jdk_32_method_2_code 9 = .ok (.return_, 1) := by decide +kernel
theorem pn_76724870 : plainFor (⟨"java/util/Optional", "<init>", "(Ljava/lang/Object;)V"⟩ : MethodName) = true := by first | exact plainFor_of_name (by first | (simp [plainName, overriddenIn]; done) | decide +kernel) | decide +kernel
set_option maxRecDepth 65536 in
set_option maxHeartbeats 4000000 in
theorem ct_optinit (G : Own.Gx) (hw : ∀ d ∈ tables_1, d.before G.a0 G.Z = true) {As : List Own.Ent} {Li : List Own.LitE} (o a : Addr) (v0 : Value) :
    Own.Ct G [] (⟨"java/util/Optional", "<init>", "(Ljava/lang/Object;)V"⟩ : MethodName) jdk_32_method_2_code 2 none ({ frames := 1, cells := 0, slots := 0, locals := 12 } : Room) [.ref o, .ref a] ((o, true, Own.obj "java/util/Optional" F_java_util_Optional [v0]) :: As) Li (fun v A L => v = none ∧ A = (o, true, Own.obj "java/util/Optional" F_java_util_Optional [.ref a]) :: As ∧ L = Li) := by
  refine Own.Ct.intro pn_76724870 (Ls := [.val (.ref o), .val (.ref a)]) rfl rfl ?_
  intro K
  refine Own.W.aloadN (pc := 0) d4_0 rfl rfl ?_
  refine Own.W.callO (pc := 1) d4_1 (hw _ (List.mem_of_getElem? (i := 21) rfl)) (hw _ (List.mem_of_getElem? (i := 22) rfl)) (hw _ (List.mem_of_getElem? (i := 23) rfl)) (Nat.le_of_ble_eq_true rfl) (Nat.le_of_ble_eq_true rfl) ?_
  refine Own.W.aloadN (pc := 4) d4_4 rfl rfl ?_
  refine Own.W.aloadN (pc := 5) d4_5 rfl rfl ?_
  refine Own.W.putF (pc := 6) (host := "") (Or.inl (hw _ (List.mem_of_getElem? (i := 24) rfl))) (Via.refl (O := "java/util/Optional")) d4_6 (Or.inr ⟨(hw _ (List.mem_of_getElem? (i := 25) rfl)), rfl, rfl⟩) (hw _ (List.mem_of_getElem? (i := 12) rfl)) (ty := (.object "java/lang/Object")) (by decide) rfl rfl (by repeat (first | exact Own.Upd.head | exact Own.Upd.mid | apply Own.Upd.tail)) (by repeat (first | exact Own.FUp.head | apply Own.FUp.tail)) ?_
  refine Own.W.vret (pc := 9) d4_9 rfl ?_ (Nat.le_of_ble_eq_true rfl) (Nat.le_of_ble_eq_true rfl)
  exact ⟨rfl, rfl, rfl⟩
theorem d2_0 : decode jdk_32_method_3_code 0 = .ok (.new 2, 3) := by decide +kernel
theorem d2_3 : decode jdk_32_method_3_code 3 = .ok (.dup, 1) := by decide +kernel
theorem d2_4 : decode jdk_32_method_3_code 4 = .ok (.aload_n 0, 1) := by decide +kernel
theorem d2_5 : decode jdk_32_method_3_code 5 = .ok (.invokestatic 17, 3) := by decide +kernel
theorem pd_77252822 : parseMethodDescriptor "(Ljava/lang/Object;)Ljava/lang/Object;" = some ⟨[(.object "java/lang/Object")], some (.object "java/lang/Object")⟩ := by decide +kernel
theorem d2_8 : decode jdk_32_method_3_code 8 = .ok (.invokespecial 23, 3) := by decide +kernel
theorem pd_96412076 : parseMethodDescriptor "(Ljava/lang/Object;)V" = some ⟨[(.object "java/lang/Object")], none⟩ := by decide +kernel
theorem d2_11 : decode jdk_32_method_3_code 11 = .ok (.areturn, 1) := by decide +kernel
theorem pn_51417442 : plainFor (⟨"java/util/Optional", "of", "(Ljava/lang/Object;)Ljava/util/Optional;"⟩ : MethodName) = true := by first | exact plainFor_of_name (by first | (simp [plainName, overriddenIn]; done) | decide +kernel) | decide +kernel
set_option maxRecDepth 65536 in
set_option maxHeartbeats 4000000 in
theorem ct_optof (G : Own.Gx) (hw : ∀ d ∈ tables_1, d.before G.a0 G.Z = true) {As : List Own.Ent} {Li : List Own.LitE} (a : Addr) :
    Own.Ct G [] (⟨"java/util/Optional", "of", "(Ljava/lang/Object;)Ljava/util/Optional;"⟩ : MethodName) jdk_32_method_3_code 1 (some (.object "java/util/Optional")) ({ frames := 2, cells := 1, slots := 1, locals := 26 } : Room) [.ref a] As Li (fun v A L => ∃ o, v = some (.ref o) ∧ A = (o, true, Own.obj "java/util/Optional" F_java_util_Optional [.ref a]) :: As ∧ L = Li) := by
  refine Own.Ct.intro pn_51417442 (Ls := [.val (.ref a)]) rfl rfl ?_
  intro K
  refine Own.W.new (pc := 0) (hw _ (List.mem_of_getElem? (i := 11) rfl)) (hw _ (List.mem_of_getElem? (i := 12) rfl)) (hw _ (List.mem_of_getElem? (i := 9) rfl)) d2_0 (LF_java_util_Optional G hw) (vs := [.null]) (by decide) (Nat.le_of_ble_eq_true rfl) (Nat.le_of_ble_eq_true rfl) ?_
  intro o0
  refine Own.W.dup (pc := 3) d2_3 rfl ?_
  refine Own.W.aloadN (pc := 4) d2_4 rfl rfl ?_
  refine Own.W.callS (pc := 5) (ct_rnn G hw a) d2_5 (hw _ (List.mem_of_getElem? (i := 13) rfl)) (hw _ (List.mem_of_getElem? (i := 14) rfl)) (hw _ (List.mem_of_getElem? (i := 15) rfl)) (hw _ (List.mem_of_getElem? (i := 16) rfl)) (by decide) pd_77252822 rfl rfl (Nat.le_of_ble_eq_true rfl) (Nat.le_of_ble_eq_true rfl) (Nat.le_of_ble_eq_true rfl) (Nat.le_of_ble_eq_true rfl) ?_
  rintro _ _ _ ⟨rfl, rfl, rfl⟩
  refine Own.W.callI (pc := 8) (ct_optinit G hw o0 a .null) d2_8 rfl (hw _ (List.mem_of_getElem? (i := 17) rfl)) (hw _ (List.mem_of_getElem? (i := 18) rfl)) (hw _ (List.mem_of_getElem? (i := 9) rfl)) (hw _ (List.mem_of_getElem? (i := 20) rfl)) (by decide) pd_96412076 rfl rfl (Nat.le_of_ble_eq_true rfl) (Nat.le_of_ble_eq_true rfl) (Nat.le_of_ble_eq_true rfl) (Nat.le_of_ble_eq_true rfl) ?_
  rintro _ _ _ ⟨rfl, rfl, rfl⟩
  refine Own.W.aret (pc := 11) d2_11 rfl rfl rfl ?_ (Nat.le_of_ble_eq_true rfl) (Nat.le_of_ble_eq_true rfl)
  exact ⟨_, rfl, rfl, rfl⟩
theorem d9_0 : decode jdk_32_method_1_code 0 = .ok (.getstatic 1, 3) := by decide +kernel
theorem d9_3 : decode jdk_32_method_1_code 3 = .ok (.astore_n 0, 1) := by decide +kernel
theorem d9_4 : decode jdk_32_method_1_code 4 = .ok (.aload_n 0, 1) := by decide +kernel
theorem d9_5 : decode jdk_32_method_1_code 5 = .ok (.areturn, 1) := by decide +kernel
theorem pn_65458652 : plainFor (⟨"java/util/Optional", "empty", "()Ljava/util/Optional;"⟩ : MethodName) = true := by first | exact plainFor_of_name (by first | (simp [plainName, overriddenIn]; done) | decide +kernel) | decide +kernel
set_option maxRecDepth 65536 in
set_option maxHeartbeats 4000000 in
theorem ct_optempty (G : Own.Gx) (hw : ∀ d ∈ tables_1, d.before G.a0 G.Z = true) {es : Nat → Addr} {bn em : Addr} (hS : Stat G es bn em) {As : List Own.Ent} {Li : List Own.LitE} :
    Own.Ct G [] (⟨"java/util/Optional", "empty", "()Ljava/util/Optional;"⟩ : MethodName) jdk_32_method_1_code 1 (some (.object "java/util/Optional")) ({ frames := 0, cells := 0, slots := 0, locals := 0 } : Room) [] As Li (fun v A L => v = some (.ref em) ∧ A = As ∧ L = Li) := by
  refine Own.Ct.intro pn_65458652 (Ls := [.unset]) rfl rfl ?_
  intro K
  refine Own.W.getS (pc := 0) (host := "") (Or.inl (hw _ (List.mem_of_getElem? (i := 46) rfl))) (Via.refl (O := "java/util/Optional")) d9_0 hS.2.2.1.1 ?_
  refine Own.W.astoreN (pc := 3) (Ls' := [_]) d9_3 rfl rfl rfl ?_
  refine Own.W.aloadN (pc := 4) d9_4 rfl rfl ?_
  refine Own.W.aret (pc := 5) d9_5 rfl rfl rfl ?_ (Nat.le_of_ble_eq_true rfl) (Nat.le_of_ble_eq_true rfl)
  exact ⟨rfl, rfl, rfl⟩
theorem d1_0 : decode prog_37_method_5_code 0 = .ok (.iload_n 0, 1) := by decide +kernel
theorem d1_1 : decode prog_37_method_5_code 1 = .ok (.ifCond .lt 11, 3) := by decide +kernel
theorem d1_4 : decode prog_37_method_5_code 4 = .ok (.iload_n 0, 1) := by decide +kernel
theorem d1_5 : decode prog_37_method_5_code 5 = .ok (.getstatic 78, 3) := by decide +kernel
theorem d1_8 : decode prog_37_method_5_code 8 = .ok (.arraylength, 1) := by decide +kernel
theorem d1_9 : decode prog_37_method_5_code 9 = .ok (.if_icmp .lt 7, 3) := by decide +kernel
theorem d1_16 : decode prog_37_method_5_code 16 = .ok (.getstatic 78, 3) := by decide +kernel
theorem d1_19 : decode prog_37_method_5_code 19 = .ok (.iload_n 0, 1) := by decide +kernel
theorem d1_20 : decode prog_37_method_5_code 20 = .ok (.aaload, 1) := by decide +kernel
theorem d1_21 : decode prog_37_method_5_code 21 = .ok (.invokestatic 87, 3) := by decide +kernel
theorem pd_81602273 : parseMethodDescriptor "(Ljava/lang/Object;)Ljava/util/Optional;" = some ⟨[(.object "java/lang/Object")], some (.object "java/util/Optional")⟩ := by decide +kernel
theorem d1_24 : decode prog_37_method_5_code 24 = .ok (.areturn, 1) := by decide +kernel
theorem pn_89621132 : plainFor (⟨"com/example/hedge5/hedge5/StatusCode", "forNumber", "(I)Ljava/util/Optional;"⟩ : MethodName) = true := by first | exact plainFor_of_name (by first | (simp [plainName, overriddenIn]; done) | decide +kernel) | decide +kernel
set_option maxRecDepth 65536 in
set_option maxHeartbeats 4000000 in
theorem ct_fnIn (G : Own.Gx) (hw : ∀ d ∈ tables_1, d.before G.a0 G.Z = true) {es : Nat → Addr} {bn em : Addr} (hS : Stat G es bn em) {As : List Own.Ent} {Li : List Own.LitE} (n : Int32) (h0 : ¬ n < 0) (hlt : n < 17) (hk : n.toNatClampNeg < 17) :
    Own.Ct G [] (⟨"com/example/hedge5/hedge5/StatusCode", "forNumber", "(I)Ljava/util/Optional;"⟩ : MethodName) prog_37_method_5_code 1 (some (.object "java/util/Optional")) ({ frames := 3, cells := 1, slots := 1, locals := 38 } : Room) [.int n] As Li (fun v A L => ∃ o, v = some (.ref o) ∧ A = (o, true, Own.obj "java/util/Optional" F_java_util_Optional [.ref (es n.toNatClampNeg)]) :: As ∧ L = Li) := by
  refine Own.Ct.intro pn_89621132 (Ls := [.val (.int n)]) rfl rfl ?_
  intro K
  refine Own.W.iloadN (pc := 0) d1_0 rfl ?_
  refine Own.W.if_lt (pc := 1) 12 d1_1 (by decide) (by decide) (fun h1 => absurd h1 h0) ?_
  intro h1
  refine Own.W.iloadN (pc := 4) d1_4 rfl ?_
  refine Own.W.getS (pc := 5) (host := "") (Or.inl (hw _ (List.mem_of_getElem? (i := 4) rfl))) (Via.refl (O := "com/example/hedge5/hedge5/StatusCode")) d1_5 hS.1 ?_
  refine Own.W.alen (pc := 8) d1_8 (Own.AVin.old hS.2.1) (own_vs_len es) ?_
  refine Own.W.ic_lt (pc := 9) 16 d1_9 (by decide) (by decide) ?_ (fun h9 => absurd h9 (fun q => q hlt))
  intro h9
  refine Own.W.getS (pc := 16) (host := "") (Or.inl (hw _ (List.mem_of_getElem? (i := 4) rfl))) (Via.refl (O := "com/example/hedge5/hedge5/StatusCode")) d1_16 hS.1 ?_
  refine Own.W.iloadN (pc := 19) d1_19 rfl ?_
  refine Own.W.aaload (pc := 20) d1_20 (Own.AVin.old hS.2.1) rfl h0 (own_vs_at es hk) ?_
  refine Own.W.callS (pc := 21) (ct_optof G hw (es n.toNatClampNeg)) d1_21 (hw _ (List.mem_of_getElem? (i := 7) rfl)) (hw _ (List.mem_of_getElem? (i := 8) rfl)) (hw _ (List.mem_of_getElem? (i := 9) rfl)) (hw _ (List.mem_of_getElem? (i := 10) rfl)) (by decide) pd_81602273 rfl rfl (Nat.le_of_ble_eq_true rfl) (Nat.le_of_ble_eq_true rfl) (Nat.le_of_ble_eq_true rfl) (Nat.le_of_ble_eq_true rfl) ?_
  rintro _ _ _ ⟨o, rfl, rfl, rfl⟩
  refine Own.W.aret (pc := 24) d1_24 rfl rfl rfl ?_ (Nat.le_of_ble_eq_true rfl) (Nat.le_of_ble_eq_true rfl)
  exact ⟨_, rfl, rfl, rfl⟩
theorem d1_12 : decode prog_37_method_5_code 12 = .ok (.invokestatic 81, 3) := by decide +kernel
theorem pd_59025377 : parseMethodDescriptor "()Ljava/util/Optional;" = some ⟨[], some (.object "java/util/Optional")⟩ := by decide +kernel
theorem d1_15 : decode prog_37_method_5_code 15 = .ok (.areturn, 1) := by decide +kernel
set_option maxRecDepth 65536 in
set_option maxHeartbeats 4000000 in
theorem ct_fnOut (G : Own.Gx) (hw : ∀ d ∈ tables_1, d.before G.a0 G.Z = true) {es : Nat → Addr} {bn em : Addr} (hS : Stat G es bn em) {As : List Own.Ent} {Li : List Own.LitE} (n : Int32) (h : n < 0 ∨ ¬ n < 17) :
    Own.Ct G [] (⟨"com/example/hedge5/hedge5/StatusCode", "forNumber", "(I)Ljava/util/Optional;"⟩ : MethodName) prog_37_method_5_code 1 (some (.object "java/util/Optional")) ({ frames := 1, cells := 0, slots := 0, locals := 12 } : Room) [.int n] As Li (fun v A L => v = some (.ref em) ∧ A = As ∧ L = Li) := by
  refine Own.Ct.intro pn_89621132 (Ls := [.val (.int n)]) rfl rfl ?_
  intro K
  refine Own.W.iloadN (pc := 0) d1_0 rfl ?_
  refine Own.W.if_lt (pc := 1) 12 d1_1 (by decide) (by decide) ?_ ?_
  · intro h1
    refine Own.W.callS (pc := 12) (ct_optempty G hw hS) d1_12 (hw _ (List.mem_of_getElem? (i := 43) rfl)) (hw _ (List.mem_of_getElem? (i := 44) rfl)) (hw _ (List.mem_of_getElem? (i := 9) rfl)) (hw _ (List.mem_of_getElem? (i := 45) rfl)) (by decide) pd_59025377 rfl rfl (Nat.le_of_ble_eq_true rfl) (Nat.le_of_ble_eq_true rfl) (Nat.le_of_ble_eq_true rfl) (Nat.le_of_ble_eq_true rfl) ?_
    rintro _ _ _ ⟨rfl, rfl, rfl⟩
    refine Own.W.aret (pc := 15) d1_15 rfl rfl rfl ?_ (Nat.le_of_ble_eq_true rfl) (Nat.le_of_ble_eq_true rfl)
    exact ⟨rfl, rfl, rfl⟩
  · intro h1
    refine Own.W.iloadN (pc := 4) d1_4 rfl ?_
    refine Own.W.getS (pc := 5) (host := "") (Or.inl (hw _ (List.mem_of_getElem? (i := 4) rfl))) (Via.refl (O := "com/example/hedge5/hedge5/StatusCode")) d1_5 hS.1 ?_
    refine Own.W.alen (pc := 8) d1_8 (Own.AVin.old hS.2.1) (own_vs_len es) ?_
    refine Own.W.ic_lt (pc := 9) 16 d1_9 (by decide) (by decide) (fun h9 => absurd h9 (h.resolve_left h1)) ?_
    intro h9
    refine Own.W.callS (pc := 12) (ct_optempty G hw hS) d1_12 (hw _ (List.mem_of_getElem? (i := 43) rfl)) (hw _ (List.mem_of_getElem? (i := 44) rfl)) (hw _ (List.mem_of_getElem? (i := 9) rfl)) (hw _ (List.mem_of_getElem? (i := 45) rfl)) (by decide) pd_59025377 rfl rfl (Nat.le_of_ble_eq_true rfl) (Nat.le_of_ble_eq_true rfl) (Nat.le_of_ble_eq_true rfl) (Nat.le_of_ble_eq_true rfl) ?_
    rintro _ _ _ ⟨rfl, rfl, rfl⟩
    refine Own.W.aret (pc := 15) d1_15 rfl rfl rfl ?_ (Nat.le_of_ble_eq_true rfl) (Nat.le_of_ble_eq_true rfl)
    exact ⟨rfl, rfl, rfl⟩
def own_exp (es : Nat → Addr) (n : Int32) : Value := if n = 0 then .ref (es 0) else if n = 1 then .ref (es 1) else if n = 2 then .ref (es 2) else if n = 3 then .ref (es 3) else if n = 4 then .ref (es 4) else if n = 5 then .ref (es 5) else if n = 6 then .ref (es 6) else if n = 7 then .ref (es 7) else if n = 8 then .ref (es 8) else if n = 9 then .ref (es 9) else if n = 10 then .ref (es 10) else if n = 11 then .ref (es 11) else if n = 12 then .ref (es 12) else if n = 13 then .ref (es 13) else if n = 14 then .ref (es 14) else if n = 15 then .ref (es 15) else if n = 16 then .ref (es 16) else .null
theorem own_exp_in (es : Nat → Addr) {n : Int32} (h0 : ¬ n < 0) (h1 : n < 17) : n.toNatClampNeg < 17 ∧ own_exp es n = .ref (es n.toNatClampNeg) := by
  have e := (back32 h0).1
  have hk : n.toNatClampNeg < 17 := by
    rw [Int32.lt_iff_toInt_lt] at h1
    have : (17 : Int32).toInt = 17 := rfl
    simp only [Int32.toNatClampNeg]; omega
  refine ⟨hk, ?_⟩
  generalize n.toNatClampNeg = k at e hk
  subst e
  have : k = 0 ∨ k = 1 ∨ k = 2 ∨ k = 3 ∨ k = 4 ∨ k = 5 ∨ k = 6 ∨ k = 7 ∨ k = 8 ∨ k = 9 ∨ k = 10 ∨ k = 11 ∨ k = 12 ∨ k = 13 ∨ k = 14 ∨ k = 15 ∨ k = 16 := by omega
  rcases this with rfl | rfl | rfl | rfl | rfl | rfl | rfl | rfl | rfl | rfl | rfl | rfl | rfl | rfl | rfl | rfl | rfl <;> first | rfl | (simp [own_exp]; done)
theorem own_exp_out (es : Nat → Addr) {n : Int32} (h : ¬ (¬ n < 0 ∧ n < 17)) : own_exp es n = .null := by
  have q : n ≠ 0 ∧ n ≠ 1 ∧ n ≠ 2 ∧ n ≠ 3 ∧ n ≠ 4 ∧ n ≠ 5 ∧ n ≠ 6 ∧ n ≠ 7 ∧ n ≠ 8 ∧ n ≠ 9 ∧ n ≠ 10 ∧ n ≠ 11 ∧ n ≠ 12 ∧ n ≠ 13 ∧ n ≠ 14 ∧ n ≠ 15 ∧ n ≠ 16 := by
    refine ⟨?_, ?_, ?_, ?_, ?_, ?_, ?_, ?_, ?_, ?_, ?_, ?_, ?_, ?_, ?_, ?_, ?_⟩ <;> (rintro rfl; exact h ⟨by decide, by decide⟩)
  simp [own_exp, q]
theorem d6_0 : decode method_2_code 0 = .ok (.iload_n 0, 1) := by decide +kernel
theorem d6_1 : decode method_2_code 1 = .ok (.ifCond .ne 7, 3) := by decide +kernel
theorem d6_8 : decode method_2_code 8 = .ok (.iload_n 0, 1) := by decide +kernel
theorem d6_9 : decode method_2_code 9 = .ok (.iconst 1, 1) := by decide +kernel
theorem d6_10 : decode method_2_code 10 = .ok (.if_icmp .ne 7, 3) := by decide +kernel
theorem d6_17 : decode method_2_code 17 = .ok (.iload_n 0, 1) := by decide +kernel
theorem d6_18 : decode method_2_code 18 = .ok (.iconst 2, 1) := by decide +kernel
theorem d6_19 : decode method_2_code 19 = .ok (.if_icmp .ne 7, 3) := by decide +kernel
theorem d6_26 : decode method_2_code 26 = .ok (.iload_n 0, 1) := by decide +kernel
theorem d6_27 : decode method_2_code 27 = .ok (.iconst 3, 1) := by decide +kernel
theorem d6_28 : decode method_2_code 28 = .ok (.if_icmp .ne 7, 3) := by decide +kernel
theorem d6_35 : decode method_2_code 35 = .ok (.iload_n 0, 1) := by decide +kernel
theorem d6_36 : decode method_2_code 36 = .ok (.iconst 4, 1) := by decide +kernel
theorem d6_37 : decode method_2_code 37 = .ok (.if_icmp .ne 7, 3) := by decide +kernel
theorem d6_44 : decode method_2_code 44 = .ok (.iload_n 0, 1) := by decide +kernel
theorem d6_45 : decode method_2_code 45 = .ok (.iconst 5, 1) := by decide +kernel
theorem d6_46 : decode method_2_code 46 = .ok (.if_icmp .ne 7, 3) := by decide +kernel
theorem d6_53 : decode method_2_code 53 = .ok (.iload_n 0, 1) := by decide +kernel
theorem d6_54 : decode method_2_code 54 = .ok (.bipush 6, 2) := by decide +kernel
theorem d6_56 : decode method_2_code 56 = .ok (.if_icmp .ne 7, 3) := by decide +kernel
theorem d6_63 : decode method_2_code 63 = .ok (.iload_n 0, 1) := by decide +kernel
theorem d6_64 : decode method_2_code 64 = .ok (.bipush 7, 2) := by decide +kernel
theorem d6_66 : decode method_2_code 66 = .ok (.if_icmp .ne 7, 3) := by decide +kernel
theorem d6_73 : decode method_2_code 73 = .ok (.iload_n 0, 1) := by decide +kernel
theorem d6_74 : decode method_2_code 74 = .ok (.bipush 8, 2) := by decide +kernel
theorem d6_76 : decode method_2_code 76 = .ok (.if_icmp .ne 7, 3) := by decide +kernel
theorem d6_83 : decode method_2_code 83 = .ok (.iload_n 0, 1) := by decide +kernel
theorem d6_84 : decode method_2_code 84 = .ok (.bipush 9, 2) := by decide +kernel
theorem d6_86 : decode method_2_code 86 = .ok (.if_icmp .ne 7, 3) := by decide +kernel
theorem d6_93 : decode method_2_code 93 = .ok (.iload_n 0, 1) := by decide +kernel
theorem d6_94 : decode method_2_code 94 = .ok (.bipush 10, 2) := by decide +kernel
theorem d6_96 : decode method_2_code 96 = .ok (.if_icmp .ne 7, 3) := by decide +kernel
theorem d6_103 : decode method_2_code 103 = .ok (.iload_n 0, 1) := by decide +kernel
theorem d6_104 : decode method_2_code 104 = .ok (.bipush 11, 2) := by decide +kernel
theorem d6_106 : decode method_2_code 106 = .ok (.if_icmp .ne 7, 3) := by decide +kernel
theorem d6_113 : decode method_2_code 113 = .ok (.iload_n 0, 1) := by decide +kernel
theorem d6_114 : decode method_2_code 114 = .ok (.bipush 12, 2) := by decide +kernel
theorem d6_116 : decode method_2_code 116 = .ok (.if_icmp .ne 7, 3) := by decide +kernel
theorem d6_123 : decode method_2_code 123 = .ok (.iload_n 0, 1) := by decide +kernel
theorem d6_124 : decode method_2_code 124 = .ok (.bipush 13, 2) := by decide +kernel
theorem d6_126 : decode method_2_code 126 = .ok (.if_icmp .ne 7, 3) := by decide +kernel
theorem d6_133 : decode method_2_code 133 = .ok (.iload_n 0, 1) := by decide +kernel
theorem d6_134 : decode method_2_code 134 = .ok (.bipush 14, 2) := by decide +kernel
theorem d6_136 : decode method_2_code 136 = .ok (.if_icmp .ne 7, 3) := by decide +kernel
theorem d6_143 : decode method_2_code 143 = .ok (.iload_n 0, 1) := by decide +kernel
theorem d6_144 : decode method_2_code 144 = .ok (.bipush 15, 2) := by decide +kernel
theorem d6_146 : decode method_2_code 146 = .ok (.if_icmp .ne 7, 3) := by decide +kernel
theorem d6_153 : decode method_2_code 153 = .ok (.iload_n 0, 1) := by decide +kernel
theorem d6_154 : decode method_2_code 154 = .ok (.bipush 16, 2) := by decide +kernel
theorem d6_156 : decode method_2_code 156 = .ok (.if_icmp .ne 7, 3) := by decide +kernel
theorem d6_163 : decode method_2_code 163 = .ok (.aconst_null, 1) := by decide +kernel
theorem d6_164 : decode method_2_code 164 = .ok (.areturn, 1) := by decide +kernel
theorem d6_159 : decode method_2_code 159 = .ok (.getstatic 58, 3) := by decide +kernel
theorem d6_162 : decode method_2_code 162 = .ok (.areturn, 1) := by decide +kernel
theorem d6_149 : decode method_2_code 149 = .ok (.getstatic 55, 3) := by decide +kernel
theorem d6_152 : decode method_2_code 152 = .ok (.areturn, 1) := by decide +kernel
theorem d6_139 : decode method_2_code 139 = .ok (.getstatic 52, 3) := by decide +kernel
theorem d6_142 : decode method_2_code 142 = .ok (.areturn, 1) := by decide +kernel
theorem d6_129 : decode method_2_code 129 = .ok (.getstatic 49, 3) := by decide +kernel
theorem d6_132 : decode method_2_code 132 = .ok (.areturn, 1) := by decide +kernel
theorem d6_119 : decode method_2_code 119 = .ok (.getstatic 46, 3) := by decide +kernel
theorem d6_122 : decode method_2_code 122 = .ok (.areturn, 1) := by decide +kernel
theorem d6_109 : decode method_2_code 109 = .ok (.getstatic 43, 3) := by decide +kernel
theorem d6_112 : decode method_2_code 112 = .ok (.areturn, 1) := by decide +kernel
theorem d6_99 : decode method_2_code 99 = .ok (.getstatic 40, 3) := by decide +kernel
theorem d6_102 : decode method_2_code 102 = .ok (.areturn, 1) := by decide +kernel
theorem d6_89 : decode method_2_code 89 = .ok (.getstatic 37, 3) := by decide +kernel
theorem d6_92 : decode method_2_code 92 = .ok (.areturn, 1) := by decide +kernel
theorem d6_79 : decode method_2_code 79 = .ok (.getstatic 34, 3) := by decide +kernel
theorem d6_82 : decode method_2_code 82 = .ok (.areturn, 1) := by decide +kernel
theorem d6_69 : decode method_2_code 69 = .ok (.getstatic 31, 3) := by decide +kernel
theorem d6_72 : decode method_2_code 72 = .ok (.areturn, 1) := by decide +kernel
theorem d6_59 : decode method_2_code 59 = .ok (.getstatic 28, 3) := by decide +kernel
theorem d6_62 : decode method_2_code 62 = .ok (.areturn, 1) := by decide +kernel
theorem d6_49 : decode method_2_code 49 = .ok (.getstatic 25, 3) := by decide +kernel
theorem d6_52 : decode method_2_code 52 = .ok (.areturn, 1) := by decide +kernel
theorem d6_40 : decode method_2_code 40 = .ok (.getstatic 22, 3) := by decide +kernel
theorem d6_43 : decode method_2_code 43 = .ok (.areturn, 1) := by decide +kernel
theorem d6_31 : decode method_2_code 31 = .ok (.getstatic 19, 3) := by decide +kernel
theorem d6_34 : decode method_2_code 34 = .ok (.areturn, 1) := by decide +kernel
theorem d6_22 : decode method_2_code 22 = .ok (.getstatic 16, 3) := by decide +kernel
theorem d6_25 : decode method_2_code 25 = .ok (.areturn, 1) := by decide +kernel
theorem d6_13 : decode method_2_code 13 = .ok (.getstatic 13, 3) := by decide +kernel
theorem d6_16 : decode method_2_code 16 = .ok (.areturn, 1) := by decide +kernel
theorem d6_4 : decode method_2_code 4 = .ok (.getstatic 7, 3) := by decide +kernel
theorem d6_7 : decode method_2_code 7 = .ok (.areturn, 1) := by decide +kernel
theorem pn_42240175 : plainFor (⟨"com/example/hedge5/hedge5/StatusCodeForNumberPinLaw", "expected", "(I)Lcom/example/hedge5/hedge5/StatusCode;"⟩ : MethodName) = true := by first | exact plainFor_of_name (by first | (simp [plainName, overriddenIn]; done) | decide +kernel) | decide +kernel
set_option maxRecDepth 65536 in
set_option maxHeartbeats 4000000 in
theorem ct_exp (G : Own.Gx) (hw : ∀ d ∈ tables_1, d.before G.a0 G.Z = true) {es : Nat → Addr} {bn em : Addr} (hS : Stat G es bn em) {As : List Own.Ent} {Li : List Own.LitE} (n : Int32) :
    Own.Ct G [] (⟨"com/example/hedge5/hedge5/StatusCodeForNumberPinLaw", "expected", "(I)Lcom/example/hedge5/hedge5/StatusCode;"⟩ : MethodName) method_2_code 1 (some (.object "com/example/hedge5/hedge5/StatusCode")) ({ frames := 0, cells := 0, slots := 0, locals := 0 } : Room) [.int n] As Li (fun v A L => v = some (own_exp es n) ∧ A = As ∧ L = Li) := by
  refine Own.Ct.intro pn_42240175 (Ls := [.val (.int n)]) rfl rfl ?_
  intro K
  refine Own.W.iloadN (pc := 0) d6_0 rfl ?_
  refine Own.W.if_ne (pc := 1) 8 d6_1 (by decide) (by decide) ?_ ?_
  · intro h1
    refine Own.W.iloadN (pc := 8) d6_8 rfl ?_
    refine Own.W.iconst (pc := 9) (z := (1 : Int32)) d6_9 (by decide) ?_
    refine Own.W.ic_ne (pc := 10) 17 d6_10 (by decide) (by decide) ?_ ?_
    · intro h10
      refine Own.W.iloadN (pc := 17) d6_17 rfl ?_
      refine Own.W.iconst (pc := 18) (z := (2 : Int32)) d6_18 (by decide) ?_
      refine Own.W.ic_ne (pc := 19) 26 d6_19 (by decide) (by decide) ?_ ?_
      · intro h19
        refine Own.W.iloadN (pc := 26) d6_26 rfl ?_
        refine Own.W.iconst (pc := 27) (z := (3 : Int32)) d6_27 (by decide) ?_
        refine Own.W.ic_ne (pc := 28) 35 d6_28 (by decide) (by decide) ?_ ?_
        · intro h28
          refine Own.W.iloadN (pc := 35) d6_35 rfl ?_
          refine Own.W.iconst (pc := 36) (z := (4 : Int32)) d6_36 (by decide) ?_
          refine Own.W.ic_ne (pc := 37) 44 d6_37 (by decide) (by decide) ?_ ?_
          · intro h37
            refine Own.W.iloadN (pc := 44) d6_44 rfl ?_
            refine Own.W.iconst (pc := 45) (z := (5 : Int32)) d6_45 (by decide) ?_
            refine Own.W.ic_ne (pc := 46) 53 d6_46 (by decide) (by decide) ?_ ?_
            · intro h46
              refine Own.W.iloadN (pc := 53) d6_53 rfl ?_
              refine Own.W.bipush (pc := 54) (z := (6 : Int32)) d6_54 (by decide) ?_
              refine Own.W.ic_ne (pc := 56) 63 d6_56 (by decide) (by decide) ?_ ?_
              · intro h56
                refine Own.W.iloadN (pc := 63) d6_63 rfl ?_
                refine Own.W.bipush (pc := 64) (z := (7 : Int32)) d6_64 (by decide) ?_
                refine Own.W.ic_ne (pc := 66) 73 d6_66 (by decide) (by decide) ?_ ?_
                · intro h66
                  refine Own.W.iloadN (pc := 73) d6_73 rfl ?_
                  refine Own.W.bipush (pc := 74) (z := (8 : Int32)) d6_74 (by decide) ?_
                  refine Own.W.ic_ne (pc := 76) 83 d6_76 (by decide) (by decide) ?_ ?_
                  · intro h76
                    refine Own.W.iloadN (pc := 83) d6_83 rfl ?_
                    refine Own.W.bipush (pc := 84) (z := (9 : Int32)) d6_84 (by decide) ?_
                    refine Own.W.ic_ne (pc := 86) 93 d6_86 (by decide) (by decide) ?_ ?_
                    · intro h86
                      refine Own.W.iloadN (pc := 93) d6_93 rfl ?_
                      refine Own.W.bipush (pc := 94) (z := (10 : Int32)) d6_94 (by decide) ?_
                      refine Own.W.ic_ne (pc := 96) 103 d6_96 (by decide) (by decide) ?_ ?_
                      · intro h96
                        refine Own.W.iloadN (pc := 103) d6_103 rfl ?_
                        refine Own.W.bipush (pc := 104) (z := (11 : Int32)) d6_104 (by decide) ?_
                        refine Own.W.ic_ne (pc := 106) 113 d6_106 (by decide) (by decide) ?_ ?_
                        · intro h106
                          refine Own.W.iloadN (pc := 113) d6_113 rfl ?_
                          refine Own.W.bipush (pc := 114) (z := (12 : Int32)) d6_114 (by decide) ?_
                          refine Own.W.ic_ne (pc := 116) 123 d6_116 (by decide) (by decide) ?_ ?_
                          · intro h116
                            refine Own.W.iloadN (pc := 123) d6_123 rfl ?_
                            refine Own.W.bipush (pc := 124) (z := (13 : Int32)) d6_124 (by decide) ?_
                            refine Own.W.ic_ne (pc := 126) 133 d6_126 (by decide) (by decide) ?_ ?_
                            · intro h126
                              refine Own.W.iloadN (pc := 133) d6_133 rfl ?_
                              refine Own.W.bipush (pc := 134) (z := (14 : Int32)) d6_134 (by decide) ?_
                              refine Own.W.ic_ne (pc := 136) 143 d6_136 (by decide) (by decide) ?_ ?_
                              · intro h136
                                refine Own.W.iloadN (pc := 143) d6_143 rfl ?_
                                refine Own.W.bipush (pc := 144) (z := (15 : Int32)) d6_144 (by decide) ?_
                                refine Own.W.ic_ne (pc := 146) 153 d6_146 (by decide) (by decide) ?_ ?_
                                · intro h146
                                  refine Own.W.iloadN (pc := 153) d6_153 rfl ?_
                                  refine Own.W.bipush (pc := 154) (z := (16 : Int32)) d6_154 (by decide) ?_
                                  refine Own.W.ic_ne (pc := 156) 163 d6_156 (by decide) (by decide) ?_ ?_
                                  · intro h156
                                    refine Own.W.aconstNull (pc := 163) d6_163 ?_
                                    refine Own.W.aret (pc := 164) d6_164 rfl rfl rfl ?_ (Nat.le_of_ble_eq_true rfl) (Nat.le_of_ble_eq_true rfl)
                                    exact ⟨by simp [own_exp, h1, h10, h19, h28, h37, h46, h56, h66, h76, h86, h96, h106, h116, h126, h136, h146, h156], rfl, rfl⟩
                                  · intro h156
                                    refine Own.W.getS (pc := 159) (host := "") (Or.inl (hw _ (List.mem_of_getElem? (i := 54) rfl))) (Via.refl (O := "com/example/hedge5/hedge5/StatusCode")) d6_159 hS.2.2.2.2.2.2.2.2.2.2.2.2.2.2.2.2.2.2.2 ?_
                                    refine Own.W.aret (pc := 162) d6_162 rfl rfl rfl ?_ (Nat.le_of_ble_eq_true rfl) (Nat.le_of_ble_eq_true rfl)
                                    exact ⟨by rw [h156]; simp [own_exp], rfl, rfl⟩
                                · intro h146
                                  refine Own.W.getS (pc := 149) (host := "") (Or.inl (hw _ (List.mem_of_getElem? (i := 76) rfl))) (Via.refl (O := "com/example/hedge5/hedge5/StatusCode")) d6_149 hS.2.2.2.2.2.2.2.2.2.2.2.2.2.2.2.2.2.2.1 ?_
                                  refine Own.W.aret (pc := 152) d6_152 rfl rfl rfl ?_ (Nat.le_of_ble_eq_true rfl) (Nat.le_of_ble_eq_true rfl)
                                  exact ⟨by rw [h146]; simp [own_exp], rfl, rfl⟩
                              · intro h136
                                refine Own.W.getS (pc := 139) (host := "") (Or.inl (hw _ (List.mem_of_getElem? (i := 42) rfl))) (Via.refl (O := "com/example/hedge5/hedge5/StatusCode")) d6_139 hS.2.2.2.2.2.2.2.2.2.2.2.2.2.2.2.2.2.1 ?_
                                refine Own.W.aret (pc := 142) d6_142 rfl rfl rfl ?_ (Nat.le_of_ble_eq_true rfl) (Nat.le_of_ble_eq_true rfl)
                                exact ⟨by rw [h136]; simp [own_exp], rfl, rfl⟩
                            · intro h126
                              refine Own.W.getS (pc := 129) (host := "") (Or.inl (hw _ (List.mem_of_getElem? (i := 74) rfl))) (Via.refl (O := "com/example/hedge5/hedge5/StatusCode")) d6_129 hS.2.2.2.2.2.2.2.2.2.2.2.2.2.2.2.2.1 ?_
                              refine Own.W.aret (pc := 132) d6_132 rfl rfl rfl ?_ (Nat.le_of_ble_eq_true rfl) (Nat.le_of_ble_eq_true rfl)
                              exact ⟨by rw [h126]; simp [own_exp], rfl, rfl⟩
                          · intro h116
                            refine Own.W.getS (pc := 119) (host := "") (Or.inl (hw _ (List.mem_of_getElem? (i := 52) rfl))) (Via.refl (O := "com/example/hedge5/hedge5/StatusCode")) d6_119 hS.2.2.2.2.2.2.2.2.2.2.2.2.2.2.2.1 ?_
                            refine Own.W.aret (pc := 122) d6_122 rfl rfl rfl ?_ (Nat.le_of_ble_eq_true rfl) (Nat.le_of_ble_eq_true rfl)
                            exact ⟨by rw [h116]; simp [own_exp], rfl, rfl⟩
                        · intro h106
                          refine Own.W.getS (pc := 109) (host := "") (Or.inl (hw _ (List.mem_of_getElem? (i := 60) rfl))) (Via.refl (O := "com/example/hedge5/hedge5/StatusCode")) d6_109 hS.2.2.2.2.2.2.2.2.2.2.2.2.2.2.1 ?_
                          refine Own.W.aret (pc := 112) d6_112 rfl rfl rfl ?_ (Nat.le_of_ble_eq_true rfl) (Nat.le_of_ble_eq_true rfl)
                          exact ⟨by rw [h106]; simp [own_exp], rfl, rfl⟩
                      · intro h96
                        refine Own.W.getS (pc := 99) (host := "") (Or.inl (hw _ (List.mem_of_getElem? (i := 62) rfl))) (Via.refl (O := "com/example/hedge5/hedge5/StatusCode")) d6_99 hS.2.2.2.2.2.2.2.2.2.2.2.2.2.1 ?_
                        refine Own.W.aret (pc := 102) d6_102 rfl rfl rfl ?_ (Nat.le_of_ble_eq_true rfl) (Nat.le_of_ble_eq_true rfl)
                        exact ⟨by rw [h96]; simp [own_exp], rfl, rfl⟩
                    · intro h86
                      refine Own.W.getS (pc := 89) (host := "") (Or.inl (hw _ (List.mem_of_getElem? (i := 66) rfl))) (Via.refl (O := "com/example/hedge5/hedge5/StatusCode")) d6_89 hS.2.2.2.2.2.2.2.2.2.2.2.2.1 ?_
                      refine Own.W.aret (pc := 92) d6_92 rfl rfl rfl ?_ (Nat.le_of_ble_eq_true rfl) (Nat.le_of_ble_eq_true rfl)
                      exact ⟨by rw [h86]; simp [own_exp], rfl, rfl⟩
                  · intro h76
                    refine Own.W.getS (pc := 79) (host := "") (Or.inl (hw _ (List.mem_of_getElem? (i := 50) rfl))) (Via.refl (O := "com/example/hedge5/hedge5/StatusCode")) d6_79 hS.2.2.2.2.2.2.2.2.2.2.2.1 ?_
                    refine Own.W.aret (pc := 82) d6_82 rfl rfl rfl ?_ (Nat.le_of_ble_eq_true rfl) (Nat.le_of_ble_eq_true rfl)
                    exact ⟨by rw [h76]; simp [own_exp], rfl, rfl⟩
                · intro h66
                  refine Own.W.getS (pc := 69) (host := "") (Or.inl (hw _ (List.mem_of_getElem? (i := 70) rfl))) (Via.refl (O := "com/example/hedge5/hedge5/StatusCode")) d6_69 hS.2.2.2.2.2.2.2.2.2.2.1 ?_
                  refine Own.W.aret (pc := 72) d6_72 rfl rfl rfl ?_ (Nat.le_of_ble_eq_true rfl) (Nat.le_of_ble_eq_true rfl)
                  exact ⟨by rw [h66]; simp [own_exp], rfl, rfl⟩
              · intro h56
                refine Own.W.getS (pc := 59) (host := "") (Or.inl (hw _ (List.mem_of_getElem? (i := 68) rfl))) (Via.refl (O := "com/example/hedge5/hedge5/StatusCode")) d6_59 hS.2.2.2.2.2.2.2.2.2.1 ?_
                refine Own.W.aret (pc := 62) d6_62 rfl rfl rfl ?_ (Nat.le_of_ble_eq_true rfl) (Nat.le_of_ble_eq_true rfl)
                exact ⟨by rw [h56]; simp [own_exp], rfl, rfl⟩
            · intro h46
              refine Own.W.getS (pc := 49) (host := "") (Or.inl (hw _ (List.mem_of_getElem? (i := 58) rfl))) (Via.refl (O := "com/example/hedge5/hedge5/StatusCode")) d6_49 hS.2.2.2.2.2.2.2.2.1 ?_
              refine Own.W.aret (pc := 52) d6_52 rfl rfl rfl ?_ (Nat.le_of_ble_eq_true rfl) (Nat.le_of_ble_eq_true rfl)
              exact ⟨by rw [h46]; simp [own_exp], rfl, rfl⟩
          · intro h37
            refine Own.W.getS (pc := 40) (host := "") (Or.inl (hw _ (List.mem_of_getElem? (i := 64) rfl))) (Via.refl (O := "com/example/hedge5/hedge5/StatusCode")) d6_40 hS.2.2.2.2.2.2.2.1 ?_
            refine Own.W.aret (pc := 43) d6_43 rfl rfl rfl ?_ (Nat.le_of_ble_eq_true rfl) (Nat.le_of_ble_eq_true rfl)
            exact ⟨by rw [h37]; simp [own_exp], rfl, rfl⟩
        · intro h28
          refine Own.W.getS (pc := 31) (host := "") (Or.inl (hw _ (List.mem_of_getElem? (i := 56) rfl))) (Via.refl (O := "com/example/hedge5/hedge5/StatusCode")) d6_31 hS.2.2.2.2.2.2.1 ?_
          refine Own.W.aret (pc := 34) d6_34 rfl rfl rfl ?_ (Nat.le_of_ble_eq_true rfl) (Nat.le_of_ble_eq_true rfl)
          exact ⟨by rw [h28]; simp [own_exp], rfl, rfl⟩
      · intro h19
        refine Own.W.getS (pc := 22) (host := "") (Or.inl (hw _ (List.mem_of_getElem? (i := 72) rfl))) (Via.refl (O := "com/example/hedge5/hedge5/StatusCode")) d6_22 hS.2.2.2.2.2.1 ?_
        refine Own.W.aret (pc := 25) d6_25 rfl rfl rfl ?_ (Nat.le_of_ble_eq_true rfl) (Nat.le_of_ble_eq_true rfl)
        exact ⟨by rw [h19]; simp [own_exp], rfl, rfl⟩
    · intro h10
      refine Own.W.getS (pc := 13) (host := "") (Or.inl (hw _ (List.mem_of_getElem? (i := 48) rfl))) (Via.refl (O := "com/example/hedge5/hedge5/StatusCode")) d6_13 hS.2.2.2.2.1 ?_
      refine Own.W.aret (pc := 16) d6_16 rfl rfl rfl ?_ (Nat.le_of_ble_eq_true rfl) (Nat.le_of_ble_eq_true rfl)
      exact ⟨by rw [h10]; simp [own_exp], rfl, rfl⟩
  · intro h1
    refine Own.W.getS (pc := 4) (host := "") (Or.inl (hw _ (List.mem_of_getElem? (i := 30) rfl))) (Via.refl (O := "com/example/hedge5/hedge5/StatusCode")) d6_4 hS.2.2.2.1 ?_
    refine Own.W.aret (pc := 7) d6_7 rfl rfl rfl ?_ (Nat.le_of_ble_eq_true rfl) (Nat.le_of_ble_eq_true rfl)
    exact ⟨by rw [h1]; simp [own_exp], rfl, rfl⟩
theorem d7_0 : decode jdk_32_method_6_code 0 = .ok (.aload_n 0, 1) := by decide +kernel
theorem d7_1 : decode jdk_32_method_6_code 1 = .ok (.getfield 13, 3) := by decide +kernel
theorem d7_4 : decode jdk_32_method_6_code 4 = .ok (.ifnull 7, 3) := by decide +kernel
theorem d7_7 : decode jdk_32_method_6_code 7 = .ok (.iconst 1, 1) := by decide +kernel
theorem d7_8 : decode jdk_32_method_6_code 8 = .ok (.goto 4, 3) := by decide +kernel
theorem d7_12 : decode jdk_32_method_6_code 12 = .ok (.ireturn, 1) := by decide +kernel
theorem pn_890169 : plainFor (⟨"java/util/Optional", "isPresent", "()Z"⟩ : MethodName) = true := by first | exact plainFor_of_name (by first | (simp [plainName, overriddenIn]; done) | decide +kernel) | decide +kernel
set_option maxRecDepth 65536 in
set_option maxHeartbeats 4000000 in
theorem ct_isP1 (G : Own.Gx) (hw : ∀ d ∈ tables_1, d.before G.a0 G.Z = true) {As : List Own.Ent} {Li : List Own.LitE} {w : Bool} (o a : Addr) (hm : (o, w, Own.obj "java/util/Optional" F_java_util_Optional [.ref a]) ∈ As) :
    Own.Ct G [] (⟨"java/util/Optional", "isPresent", "()Z"⟩ : MethodName) jdk_32_method_6_code 1 (some .boolean) ({ frames := 0, cells := 0, slots := 0, locals := 0 } : Room) [.ref o] As Li (fun v A L => v = some (.int 1) ∧ A = As ∧ L = Li) := by
  refine Own.Ct.intro pn_890169 (Ls := [.val (.ref o)]) rfl rfl ?_
  intro K
  refine Own.W.aloadN (pc := 0) d7_0 rfl rfl ?_
  refine Own.W.getF (pc := 1) (host := "") (Or.inl (hw _ (List.mem_of_getElem? (i := 24) rfl))) (Via.refl (O := "java/util/Optional")) d7_1 (by repeat (first | exact List.Mem.head _ | assumption | exact List.mem_append_right _ (List.Mem.head _) | apply List.Mem.tail)) (by repeat (first | exact Own.FAt.head | apply Own.FAt.tail)) ?_
  refine Own.W.nullN (pc := 4) d7_4 ?_
  refine Own.W.iconst (pc := 7) (z := (1 : Int32)) d7_7 (by decide) ?_
  refine Own.W.goto (pc := 8) 12 d7_8 (by decide) (by decide) ?_
  refine Own.W.iret (pc := 12) d7_12 rfl (by simp) (by first | rfl | decide) ?_ (Nat.le_of_ble_eq_true rfl) (Nat.le_of_ble_eq_true rfl)
  exact ⟨rfl, rfl, rfl⟩
theorem d7_11 : decode jdk_32_method_6_code 11 = .ok (.iconst 0, 1) := by decide +kernel
set_option maxRecDepth 65536 in
set_option maxHeartbeats 4000000 in
theorem ct_isP0 (G : Own.Gx) (hw : ∀ d ∈ tables_1, d.before G.a0 G.Z = true) {es : Nat → Addr} {bn em : Addr} (hS : Stat G es bn em) {As : List Own.Ent} {Li : List Own.LitE} :
    Own.Ct G [] (⟨"java/util/Optional", "isPresent", "()Z"⟩ : MethodName) jdk_32_method_6_code 1 (some .boolean) ({ frames := 0, cells := 0, slots := 0, locals := 0 } : Room) [.ref em] As Li (fun v A L => v = some (.int 0) ∧ A = As ∧ L = Li) := by
  refine Own.Ct.intro pn_890169 (Ls := [.val (.ref em)]) rfl rfl ?_
  intro K
  refine Own.W.aloadN (pc := 0) d7_0 rfl rfl ?_
  refine Own.W.getFo (pc := 1) (host := "") (Or.inl (hw _ (List.mem_of_getElem? (i := 24) rfl))) (Via.refl (O := "java/util/Optional")) d7_1 hS.2.2.1.2.2 ?_
  refine Own.W.nullY (pc := 4) 11 d7_4 (by decide) (by decide) ?_
  refine Own.W.iconst (pc := 11) (z := (0 : Int32)) d7_11 (by decide) ?_
  refine Own.W.iret (pc := 12) d7_12 rfl (by simp) (by first | rfl | decide) ?_ (Nat.le_of_ble_eq_true rfl) (Nat.le_of_ble_eq_true rfl)
  exact ⟨rfl, rfl, rfl⟩
theorem d8_0 : decode jdk_32_method_5_code 0 = .ok (.aload_n 0, 1) := by decide +kernel
theorem d8_1 : decode jdk_32_method_5_code 1 = .ok (.getfield 13, 3) := by decide +kernel
theorem d8_4 : decode jdk_32_method_5_code 4 = .ok (.ifnonnull 13, 3) := by decide +kernel
theorem d8_17 : decode jdk_32_method_5_code 17 = .ok (.aload_n 0, 1) := by decide +kernel
theorem d8_18 : decode jdk_32_method_5_code 18 = .ok (.getfield 13, 3) := by decide +kernel
theorem d8_21 : decode jdk_32_method_5_code 21 = .ok (.areturn, 1) := by decide +kernel
theorem pn_46343042 : plainFor (⟨"java/util/Optional", "get", "()Ljava/lang/Object;"⟩ : MethodName) = true := by first | exact plainFor_of_name (by first | (simp [plainName, overriddenIn]; done) | decide +kernel) | decide +kernel
set_option maxRecDepth 65536 in
set_option maxHeartbeats 4000000 in
theorem ct_get (G : Own.Gx) (hw : ∀ d ∈ tables_1, d.before G.a0 G.Z = true) {As : List Own.Ent} {Li : List Own.LitE} {w : Bool} (o a : Addr) (hm : (o, w, Own.obj "java/util/Optional" F_java_util_Optional [.ref a]) ∈ As) :
    Own.Ct G [] (⟨"java/util/Optional", "get", "()Ljava/lang/Object;"⟩ : MethodName) jdk_32_method_5_code 1 (some (.object "java/lang/Object")) ({ frames := 0, cells := 0, slots := 0, locals := 0 } : Room) [.ref o] As Li (fun v A L => v = some (.ref a) ∧ A = As ∧ L = Li) := by
  refine Own.Ct.intro pn_46343042 (Ls := [.val (.ref o)]) rfl rfl ?_
  intro K
  refine Own.W.aloadN (pc := 0) d8_0 rfl rfl ?_
  refine Own.W.getF (pc := 1) (host := "") (Or.inl (hw _ (List.mem_of_getElem? (i := 24) rfl))) (Via.refl (O := "java/util/Optional")) d8_1 (by repeat (first | exact List.Mem.head _ | assumption | exact List.mem_append_right _ (List.Mem.head _) | apply List.Mem.tail)) (by repeat (first | exact Own.FAt.head | apply Own.FAt.tail)) ?_
  refine Own.W.nonnullY (pc := 4) 17 d8_4 (by decide) (by decide) ?_
  refine Own.W.aloadN (pc := 17) d8_17 rfl rfl ?_
  refine Own.W.getF (pc := 18) (host := "") (Or.inl (hw _ (List.mem_of_getElem? (i := 24) rfl))) (Via.refl (O := "java/util/Optional")) d8_18 (by repeat (first | exact List.Mem.head _ | assumption | exact List.mem_append_right _ (List.Mem.head _) | apply List.Mem.tail)) (by repeat (first | exact Own.FAt.head | apply Own.FAt.tail)) ?_
  refine Own.W.aret (pc := 21) d8_21 rfl rfl rfl ?_ (Nat.le_of_ble_eq_true rfl) (Nat.le_of_ble_eq_true rfl)
  exact ⟨rfl, rfl, rfl⟩
def Q1 : Own.Qx := fun v _ _ => v = some (.int 1)
theorem pd_38055786 : parseMethodDescriptor "(I)Ljava/util/Optional;" = some ⟨[.int], some (.object "java/util/Optional")⟩ := by decide +kernel
theorem pd_95362800 : parseMethodDescriptor "(I)Lcom/example/hedge5/hedge5/StatusCode;" = some ⟨[.int], some (.object "com/example/hedge5/hedge5/StatusCode")⟩ := by decide +kernel
theorem pd_93422000 : parseMethodDescriptor "()Z" = some ⟨[], some .boolean⟩ := by decide +kernel
theorem pd_62477782 : parseMethodDescriptor "()Ljava/lang/Object;" = some ⟨[], some (.object "java/lang/Object")⟩ := by decide +kernel
theorem pn_67790931 : plainFor x = true := by first | exact plainFor_of_name (by first | (simp [plainName, overriddenIn]; done) | decide +kernel) | decide +kernel
set_option maxRecDepth 65536 in
set_option maxHeartbeats 4000000 in
theorem ct_law (G : Own.Gx) (hw : ∀ d ∈ tables_1, d.before G.a0 G.Z = true) (ws : List Jvm.Cond) {es : Nat → Addr} {bn em : Addr} (hS : Stat G es bn em) (p0 p1 : Int32) :
    Own.Ct G ws x code maxLocals ret room_1 [.int p0, .int p1] [] [] (Q1) := by
  refine Own.Ct.intro pn_67790931 (Ls := [.val (.int p0), .val (.int p1), .unset, .unset, .unset]) rfl rfl ?_
  intro K
  refine Own.W.iloadN (pc := 0) at_0 rfl ?_
  refine Own.W.iconst (pc := 1) (z := (1 : Int32)) at_1 (by decide) ?_
  refine Own.W.iand (pc := 2) at_2 rfl ?_
  suffices J17 : ∀ n : Int32, Own.W G K x code ret room_1 Q1 [] [] 0 0 17 [.val (.int p0), .val (.int p1), .unset, .unset, .unset] [.int n] by
    refine Own.W.if_eq (pc := 3) 10 at_3 (by decide) (by decide) ?_ ?_
    · intro h3
      refine Own.W.iloadN (pc := 10) at_10 rfl ?_
      refine Own.W.bipush (pc := 11) (z := (31 : Int32)) at_11 (by decide) ?_
      refine Own.W.iand (pc := 13) at_13 rfl ?_
      refine Own.W.bipush (pc := 14) (z := (7 : Int32)) at_14 (by decide) ?_
      refine Own.W.isub (pc := 16) at_16 rfl ?_
      exact J17 _
    · intro h3
      refine Own.W.iloadN (pc := 6) at_6 rfl ?_
      refine Own.W.goto (pc := 7) 17 at_7 (by decide) (by decide) ?_
      exact J17 _
  intro n
  refine Own.W.istoreN (pc := 17) (Ls' := [_, _, _, _, _]) at_17 rfl rfl ?_
  refine Own.W.iloadN (pc := 18) at_18 rfl ?_
  by_cases hn : ¬ n < 0 ∧ n < 17
  · obtain ⟨h0, h1⟩ := hn
    obtain ⟨hk, he⟩ := own_exp_in es h0 h1
    refine Own.W.callS (pc := 19) (ct_fnIn G hw hS n h0 h1 hk) at_19 (hw _ (List.mem_of_getElem? (i := 0) rfl)) (hw _ (List.mem_of_getElem? (i := 1) rfl)) (hw _ (List.mem_of_getElem? (i := 2) rfl)) (hw _ (List.mem_of_getElem? (i := 3) rfl)) (by decide) pd_38055786 rfl rfl (Nat.le_of_ble_eq_true rfl) (Nat.le_of_ble_eq_true rfl) (Nat.le_of_ble_eq_true rfl) (Nat.le_of_ble_eq_true rfl) ?_
    rintro _ _ _ ⟨o, rfl, rfl, rfl⟩
    refine Own.W.astoreN (pc := 22) (Ls' := [_, _, _, _, _]) at_22 rfl rfl rfl ?_
    refine Own.W.iloadN (pc := 23) at_23 rfl ?_
    refine Own.W.callS (pc := 24) (ct_exp G hw hS n) at_24 (hw _ (List.mem_of_getElem? (i := 26) rfl)) (hw _ (List.mem_of_getElem? (i := 27) rfl)) (hw _ (List.mem_of_getElem? (i := 28) rfl)) (hw _ (List.mem_of_getElem? (i := 29) rfl)) (by decide) pd_95362800 rfl rfl (Nat.le_of_ble_eq_true rfl) (Nat.le_of_ble_eq_true rfl) (Nat.le_of_ble_eq_true rfl) (Nat.le_of_ble_eq_true rfl) ?_
    rintro _ _ _ ⟨rfl, rfl, rfl⟩
    rw [he]
    refine Own.W.astore (pc := 27) (Ls' := [_, _, _, _, _]) at_27 rfl rfl rfl ?_
    refine Own.W.aload (pc := 29) at_29 rfl rfl ?_
    refine Own.W.nonnullY (pc := 31) 47 at_31 (by decide) (by decide) ?_
    refine Own.W.aloadN (pc := 47) at_47 rfl rfl ?_
    refine Own.W.callV (pc := 48) (ct_isP1 G hw o _ (List.Mem.head _)) at_48 (C := "java/util/Optional") (Own.Is.mem (by repeat (first | exact List.Mem.head _ | assumption | exact List.mem_append_right _ (List.Mem.head _) | apply List.Mem.tail))) (hw _ (List.mem_of_getElem? (i := 31) rfl)) (hw _ (List.mem_of_getElem? (i := 32) rfl)) (Own.nf_sel (hw _ (List.mem_of_getElem? (i := 34) rfl))) (hw _ (List.mem_of_getElem? (i := 34) rfl)) (hw _ (List.mem_of_getElem? (i := 33) rfl)) (hw _ (List.mem_of_getElem? (i := 9) rfl)) (hw _ (List.mem_of_getElem? (i := 35) rfl)) (by decide) pd_93422000 rfl rfl (Nat.le_of_ble_eq_true rfl) (Nat.le_of_ble_eq_true rfl) (Nat.le_of_ble_eq_true rfl) (Nat.le_of_ble_eq_true rfl) ?_
    rintro _ _ _ ⟨rfl, rfl, rfl⟩
    refine Own.W.if_eq (pc := 51) 67 at_51 (by decide) (by decide) (fun h51 => absurd h51 (by decide)) ?_
    intro h51
    refine Own.W.aloadN (pc := 54) at_54 rfl rfl ?_
    refine Own.W.callV (pc := 55) (ct_get G hw o _ (List.Mem.head _)) at_55 (C := "java/util/Optional") (Own.Is.mem (by repeat (first | exact List.Mem.head _ | assumption | exact List.mem_append_right _ (List.Mem.head _) | apply List.Mem.tail))) (hw _ (List.mem_of_getElem? (i := 36) rfl)) (hw _ (List.mem_of_getElem? (i := 37) rfl)) (Own.nf_sel (hw _ (List.mem_of_getElem? (i := 39) rfl))) (hw _ (List.mem_of_getElem? (i := 39) rfl)) (hw _ (List.mem_of_getElem? (i := 38) rfl)) (hw _ (List.mem_of_getElem? (i := 9) rfl)) (hw _ (List.mem_of_getElem? (i := 40) rfl)) (by decide) pd_62477782 rfl rfl (Nat.le_of_ble_eq_true rfl) (Nat.le_of_ble_eq_true rfl) (Nat.le_of_ble_eq_true rfl) (Nat.le_of_ble_eq_true rfl) ?_
    rintro _ _ _ ⟨rfl, rfl, rfl⟩
    refine Own.W.aload (pc := 58) at_58 rfl rfl ?_
    refine Own.W.ac0 (pc := 60) at_60 rfl rfl (by simp [Jvm.Free.XT.acmp]) ?_
    refine Own.W.iconst (pc := 63) (z := (1 : Int32)) at_63 (by decide) ?_
    refine Own.W.goto (pc := 64) 68 at_64 (by decide) (by decide) ?_
    refine Own.W.iret (pc := 68) at_68 rfl (by simp) (by first | rfl | decide) ?_ (Nat.le_of_ble_eq_true rfl) (Nat.le_of_ble_eq_true rfl)
    exact rfl
  · have he := own_exp_out es hn
    have ho : n < 0 ∨ ¬ n < 17 := by
      by_cases q : n < 0
      · exact Or.inl q
      · exact Or.inr fun r => hn ⟨q, r⟩
    refine Own.W.callS (pc := 19) (ct_fnOut G hw hS n ho) at_19 (hw _ (List.mem_of_getElem? (i := 0) rfl)) (hw _ (List.mem_of_getElem? (i := 1) rfl)) (hw _ (List.mem_of_getElem? (i := 2) rfl)) (hw _ (List.mem_of_getElem? (i := 3) rfl)) (by decide) pd_38055786 rfl rfl (Nat.le_of_ble_eq_true rfl) (Nat.le_of_ble_eq_true rfl) (Nat.le_of_ble_eq_true rfl) (Nat.le_of_ble_eq_true rfl) ?_
    rintro _ _ _ ⟨rfl, rfl, rfl⟩
    refine Own.W.astoreN (pc := 22) (Ls' := [_, _, _, _, _]) at_22 rfl rfl rfl ?_
    refine Own.W.iloadN (pc := 23) at_23 rfl ?_
    refine Own.W.callS (pc := 24) (ct_exp G hw hS n) at_24 (hw _ (List.mem_of_getElem? (i := 26) rfl)) (hw _ (List.mem_of_getElem? (i := 27) rfl)) (hw _ (List.mem_of_getElem? (i := 28) rfl)) (hw _ (List.mem_of_getElem? (i := 29) rfl)) (by decide) pd_95362800 rfl rfl (Nat.le_of_ble_eq_true rfl) (Nat.le_of_ble_eq_true rfl) (Nat.le_of_ble_eq_true rfl) (Nat.le_of_ble_eq_true rfl) ?_
    rintro _ _ _ ⟨rfl, rfl, rfl⟩
    rw [he]
    refine Own.W.astore (pc := 27) (Ls' := [_, _, _, _, _]) at_27 rfl rfl rfl ?_
    refine Own.W.aload (pc := 29) at_29 rfl rfl ?_
    refine Own.W.nonnullN (pc := 31) at_31 ?_
    refine Own.W.aloadN (pc := 34) at_34 rfl rfl ?_
    refine Own.W.callV (pc := 35) (ct_isP0 G hw hS) at_35 (C := "java/util/Optional") (Own.Is.old hS.2.2.1.2.1) (hw _ (List.mem_of_getElem? (i := 31) rfl)) (hw _ (List.mem_of_getElem? (i := 32) rfl)) (Own.nf_sel (hw _ (List.mem_of_getElem? (i := 34) rfl))) (hw _ (List.mem_of_getElem? (i := 34) rfl)) (hw _ (List.mem_of_getElem? (i := 33) rfl)) (hw _ (List.mem_of_getElem? (i := 9) rfl)) (hw _ (List.mem_of_getElem? (i := 35) rfl)) (by decide) pd_93422000 rfl rfl (Nat.le_of_ble_eq_true rfl) (Nat.le_of_ble_eq_true rfl) (Nat.le_of_ble_eq_true rfl) (Nat.le_of_ble_eq_true rfl) ?_
    rintro _ _ _ ⟨rfl, rfl, rfl⟩
    refine Own.W.if_ne (pc := 38) 45 at_38 (by decide) (by decide) (fun h38 => absurd h38 (fun q => q rfl)) ?_
    intro h38
    refine Own.W.iconst (pc := 41) (z := (1 : Int32)) at_41 (by decide) ?_
    refine Own.W.goto (pc := 42) 46 at_42 (by decide) (by decide) ?_
    refine Own.W.iret (pc := 46) at_46 rfl (by simp) (by first | rfl | decide) ?_ (Nat.le_of_ble_eq_true rfl) (Nat.le_of_ble_eq_true rfl)
    exact rfl
def own_es (l : List Addr) (i : Nat) : Addr := l.getD i 0
theorem own_len17 {args : Array Value} {s : State} {t : Term} {a : Addr} {cl : Cell} {ty : FieldType} (ht : t.eval args s none [] s = some (.ref a)) (A : Arr s s.heap a cl ty) (h : (Jvm.Cond.eq (Jvm.Term.length t) (Jvm.Term.int (17 : Int32))).value args s none s [] = some true) : cl.slots.size = 17 := by
  have ha := A.fin (Vm.Alike.refl _)
  by_cases hl : cl.slots.size < 2 ^ 31
  · have q := gotT (Cond.eq_ints (len_f ht ha hl) (Term.int_eval 17)) h
    have := congrArg Int32.toInt q
    rw [len_toInt hl] at this
    have h17 : (17 : Int32).toInt = 17 := rfl
    omega
  · obtain ⟨u, w, h1, -⟩ := cmp_v (Or.inl h)
    simp [Term.eval, ht, ha, hl] at h1
theorem own_el {args : Array Value} {s : State} {t u : Term} {a b : Addr} {cl : Cell} {ty : FieldType} {j : Int32} {k : Nat} (ht : t.eval args s none [] s = some (.ref a)) (A : Arr s s.heap a cl ty) (hj : ¬ j < 0) (hk : j.toNatClampNeg = k) (hu : u.eval args s none [] s = some (.ref b))
    (h : (Jvm.Cond.eq (Jvm.Term.elem t (Jvm.Term.int j)) u).value args s none s [] = some true) : cl.slots[k]? = some (.ref b) := by
  obtain ⟨y, z, h1, h2, -, h4⟩ := cmp_v (Or.inl h)
  cases hu.symm.trans h2
  obtain ⟨-, e2⟩ := elem_in h1 ht (Term.int_eval j) A.1
  subst hk
  have q := gotT (eq_R h1 h2 h4.2 rfl) h
  rw [e2, q]
set_option maxRecDepth 65536 in
set_option maxHeartbeats 4000000 in
theorem comes_1 {Post : Tables → Env → Array Value → State → Outcome → State → Prop} (hpost : ∀ tb e args s v u, (limb_1_1.after args s (.returned v) u = true ∧ limb_1_2.after args s (.returned v) u = true) → Jvm.D.Framed s (.returned v) u (Jvm.fieldLocs frame_1_writes args s ++ Jvm.arrayLocs frame_1_arrays args s ++ Jvm.staticLocs frame_1_statics s) 16 128 → Post tb e args s (.returned v) u) :
    ArmFor flags0 classFile x code maxLocals ret World_1 tables_1 room_1 Calls_1 rest_1 Pre_1 Post := by
  intro l hfl _ _ p e ha hc hk s m args below hf hA hF happ hP
  obtain ⟨hcalls, hrest, hpre⟩ := hP
  obtain ⟨-, -, -, hnamed, -, -, -, hat⟩ := (Spec.applies_iff hf).mp happ
  obtain ⟨hg, hn⟩ := and_e (Cond.before_iff.mp (show (Jvm.Cond.and given_1 narrow_1).before args s = true from hpre))
  obtain ⟨hcnt, hgr⟩ := and_e hg
  obtain ⟨ha0, hgr⟩ := and_e hgr
  have ha1 := hgr
  obtain ⟨w0, w1, rfl⟩ : ∃ w0 w1 : Value, args = #[w0, w1] := by
    have hs : args.size = 2 := by simpa [Cond.value, given_1] using hcnt
    obtain ⟨L⟩ := args
    match L, hs with
    | [w0, w1], _ => exact ⟨w0, w1, rfl⟩
  have hw := fun d (hd : d ∈ tables_1) => atoms_spec (ws := Jvm.Cond.code x code maxLocals ret :: tables_1) hat d (List.mem_cons_of_mem _ hd)
  obtain ⟨hsets, hown0⟩ := atoms_of _ (rest_1_c_eq ▸ (show rest_1_c.before _ s = true from hrest))
  obtain ⟨i0, ei0⟩ := is_v ha0
  obtain rfl : w0 = (.int i0) := Option.some.inj ei0
  obtain ⟨i1, ei1⟩ := is_v ha1
  obtain rfl : w1 = (.int i1) := Option.some.inj ei1
  obtain ⟨na, hn⟩ := and_e hn
  obtain ⟨nl, hn⟩ := and_e hn
  obtain ⟨x0, hn⟩ := and_e hn
  obtain ⟨q0, hn⟩ := and_e hn
  obtain ⟨x14, hn⟩ := and_e hn
  obtain ⟨q14, hn⟩ := and_e hn
  obtain ⟨x1, hn⟩ := and_e hn
  obtain ⟨q1, hn⟩ := and_e hn
  obtain ⟨x8, hn⟩ := and_e hn
  obtain ⟨q8, hn⟩ := and_e hn
  obtain ⟨x12, hn⟩ := and_e hn
  obtain ⟨q12, hn⟩ := and_e hn
  obtain ⟨x16, hn⟩ := and_e hn
  obtain ⟨q16, hn⟩ := and_e hn
  obtain ⟨x3, hn⟩ := and_e hn
  obtain ⟨q3, hn⟩ := and_e hn
  obtain ⟨x5, hn⟩ := and_e hn
  obtain ⟨q5, hn⟩ := and_e hn
  obtain ⟨x11, hn⟩ := and_e hn
  obtain ⟨q11, hn⟩ := and_e hn
  obtain ⟨x10, hn⟩ := and_e hn
  obtain ⟨q10, hn⟩ := and_e hn
  obtain ⟨x4, hn⟩ := and_e hn
  obtain ⟨q4, hn⟩ := and_e hn
  obtain ⟨x9, hn⟩ := and_e hn
  obtain ⟨q9, hn⟩ := and_e hn
  obtain ⟨x6, hn⟩ := and_e hn
  obtain ⟨q6, hn⟩ := and_e hn
  obtain ⟨x7, hn⟩ := and_e hn
  obtain ⟨q7, hn⟩ := and_e hn
  obtain ⟨x2, hn⟩ := and_e hn
  obtain ⟨q2, hn⟩ := and_e hn
  obtain ⟨x13, hn⟩ := and_e hn
  obtain ⟨q13, hn⟩ := and_e hn
  obtain ⟨x15, q15⟩ := and_e hn
  obtain ⟨e0, v0⟩ := exa_v x0
  have S0 : Sta s s.heap "com/example/hedge5/hedge5/StatusCode" "OK" "Lcom/example/hedge5/hedge5/StatusCode;" (.ref e0) := Sta.start v0 (Or.inr ⟨(hw _ (List.mem_of_getElem? (i := 2) rfl)), (hw _ (List.mem_of_getElem? (i := 6) rfl))⟩)
  obtain ⟨e1, v1⟩ := exa_v x1
  have S1 : Sta s s.heap "com/example/hedge5/hedge5/StatusCode" "CANCELLED" "Lcom/example/hedge5/hedge5/StatusCode;" (.ref e1) := Sta.start v1 (Or.inr ⟨(hw _ (List.mem_of_getElem? (i := 2) rfl)), (hw _ (List.mem_of_getElem? (i := 47) rfl))⟩)
  obtain ⟨e2, v2⟩ := exa_v x2
  have S2 : Sta s s.heap "com/example/hedge5/hedge5/StatusCode" "UNKNOWN" "Lcom/example/hedge5/hedge5/StatusCode;" (.ref e2) := Sta.start v2 (Or.inr ⟨(hw _ (List.mem_of_getElem? (i := 2) rfl)), (hw _ (List.mem_of_getElem? (i := 71) rfl))⟩)
  obtain ⟨e3, v3⟩ := exa_v x3
  have S3 : Sta s s.heap "com/example/hedge5/hedge5/StatusCode" "INVALID_ARGUMENT" "Lcom/example/hedge5/hedge5/StatusCode;" (.ref e3) := Sta.start v3 (Or.inr ⟨(hw _ (List.mem_of_getElem? (i := 2) rfl)), (hw _ (List.mem_of_getElem? (i := 55) rfl))⟩)
  obtain ⟨e4, v4⟩ := exa_v x4
  have S4 : Sta s s.heap "com/example/hedge5/hedge5/StatusCode" "DEADLINE_EXCEEDED" "Lcom/example/hedge5/hedge5/StatusCode;" (.ref e4) := Sta.start v4 (Or.inr ⟨(hw _ (List.mem_of_getElem? (i := 2) rfl)), (hw _ (List.mem_of_getElem? (i := 63) rfl))⟩)
  obtain ⟨e5, v5⟩ := exa_v x5
  have S5 : Sta s s.heap "com/example/hedge5/hedge5/StatusCode" "NOT_FOUND" "Lcom/example/hedge5/hedge5/StatusCode;" (.ref e5) := Sta.start v5 (Or.inr ⟨(hw _ (List.mem_of_getElem? (i := 2) rfl)), (hw _ (List.mem_of_getElem? (i := 57) rfl))⟩)
  obtain ⟨e6, v6⟩ := exa_v x6
  have S6 : Sta s s.heap "com/example/hedge5/hedge5/StatusCode" "ALREADY_EXISTS" "Lcom/example/hedge5/hedge5/StatusCode;" (.ref e6) := Sta.start v6 (Or.inr ⟨(hw _ (List.mem_of_getElem? (i := 2) rfl)), (hw _ (List.mem_of_getElem? (i := 67) rfl))⟩)
  obtain ⟨e7, v7⟩ := exa_v x7
  have S7 : Sta s s.heap "com/example/hedge5/hedge5/StatusCode" "PERMISSION_DENIED" "Lcom/example/hedge5/hedge5/StatusCode;" (.ref e7) := Sta.start v7 (Or.inr ⟨(hw _ (List.mem_of_getElem? (i := 2) rfl)), (hw _ (List.mem_of_getElem? (i := 69) rfl))⟩)
  obtain ⟨e8, v8⟩ := exa_v x8
  have S8 : Sta s s.heap "com/example/hedge5/hedge5/StatusCode" "RESOURCE_EXHAUSTED" "Lcom/example/hedge5/hedge5/StatusCode;" (.ref e8) := Sta.start v8 (Or.inr ⟨(hw _ (List.mem_of_getElem? (i := 2) rfl)), (hw _ (List.mem_of_getElem? (i := 49) rfl))⟩)
  obtain ⟨e9, v9⟩ := exa_v x9
  have S9 : Sta s s.heap "com/example/hedge5/hedge5/StatusCode" "FAILED_PRECONDITION" "Lcom/example/hedge5/hedge5/StatusCode;" (.ref e9) := Sta.start v9 (Or.inr ⟨(hw _ (List.mem_of_getElem? (i := 2) rfl)), (hw _ (List.mem_of_getElem? (i := 65) rfl))⟩)
  obtain ⟨e10, v10⟩ := exa_v x10
  have S10 : Sta s s.heap "com/example/hedge5/hedge5/StatusCode" "ABORTED" "Lcom/example/hedge5/hedge5/StatusCode;" (.ref e10) := Sta.start v10 (Or.inr ⟨(hw _ (List.mem_of_getElem? (i := 2) rfl)), (hw _ (List.mem_of_getElem? (i := 61) rfl))⟩)
  obtain ⟨e11, v11⟩ := exa_v x11
  have S11 : Sta s s.heap "com/example/hedge5/hedge5/StatusCode" "OUT_OF_RANGE" "Lcom/example/hedge5/hedge5/StatusCode;" (.ref e11) := Sta.start v11 (Or.inr ⟨(hw _ (List.mem_of_getElem? (i := 2) rfl)), (hw _ (List.mem_of_getElem? (i := 59) rfl))⟩)
  obtain ⟨e12, v12⟩ := exa_v x12
  have S12 : Sta s s.heap "com/example/hedge5/hedge5/StatusCode" "UNIMPLEMENTED" "Lcom/example/hedge5/hedge5/StatusCode;" (.ref e12) := Sta.start v12 (Or.inr ⟨(hw _ (List.mem_of_getElem? (i := 2) rfl)), (hw _ (List.mem_of_getElem? (i := 51) rfl))⟩)
  obtain ⟨e13, v13⟩ := exa_v x13
  have S13 : Sta s s.heap "com/example/hedge5/hedge5/StatusCode" "INTERNAL" "Lcom/example/hedge5/hedge5/StatusCode;" (.ref e13) := Sta.start v13 (Or.inr ⟨(hw _ (List.mem_of_getElem? (i := 2) rfl)), (hw _ (List.mem_of_getElem? (i := 73) rfl))⟩)
  obtain ⟨e14, v14⟩ := exa_v x14
  have S14 : Sta s s.heap "com/example/hedge5/hedge5/StatusCode" "UNAVAILABLE" "Lcom/example/hedge5/hedge5/StatusCode;" (.ref e14) := Sta.start v14 (Or.inr ⟨(hw _ (List.mem_of_getElem? (i := 2) rfl)), (hw _ (List.mem_of_getElem? (i := 41) rfl))⟩)
  obtain ⟨e15, v15⟩ := exa_v x15
  have S15 : Sta s s.heap "com/example/hedge5/hedge5/StatusCode" "DATA_LOSS" "Lcom/example/hedge5/hedge5/StatusCode;" (.ref e15) := Sta.start v15 (Or.inr ⟨(hw _ (List.mem_of_getElem? (i := 2) rfl)), (hw _ (List.mem_of_getElem? (i := 75) rfl))⟩)
  obtain ⟨e16, v16⟩ := exa_v x16
  have S16 : Sta s s.heap "com/example/hedge5/hedge5/StatusCode" "UNAUTHENTICATED" "Lcom/example/hedge5/hedge5/StatusCode;" (.ref e16) := Sta.start v16 (Or.inr ⟨(hw _ (List.mem_of_getElem? (i := 2) rfl)), (hw _ (List.mem_of_getElem? (i := 53) rfl))⟩)
  obtain ⟨bn, vb⟩ := arr_v na
  have Sb : Sta s s.heap "com/example/hedge5/hedge5/StatusCode" "BY_NUMBER" "[Lcom/example/hedge5/hedge5/StatusCode;" (.ref bn) := Sta.start vb (Or.inr ⟨(hw _ (List.mem_of_getElem? (i := 2) rfl)), (hw _ (List.mem_of_getElem? (i := 5) rfl))⟩)
  obtain ⟨cl, Ar⟩ := Arr.start vb na
  have hlen : cl.slots.size = 17 := own_len17 vb Ar nl
  have g0 : cl.slots[0]? = some (.ref e0) := own_el vb Ar (k := 0) (by decide) rfl v0 q0
  have g1 : cl.slots[1]? = some (.ref e1) := own_el vb Ar (k := 1) (by decide) rfl v1 q1
  have g2 : cl.slots[2]? = some (.ref e2) := own_el vb Ar (k := 2) (by decide) rfl v2 q2
  have g3 : cl.slots[3]? = some (.ref e3) := own_el vb Ar (k := 3) (by decide) rfl v3 q3
  have g4 : cl.slots[4]? = some (.ref e4) := own_el vb Ar (k := 4) (by decide) rfl v4 q4
  have g5 : cl.slots[5]? = some (.ref e5) := own_el vb Ar (k := 5) (by decide) rfl v5 q5
  have g6 : cl.slots[6]? = some (.ref e6) := own_el vb Ar (k := 6) (by decide) rfl v6 q6
  have g7 : cl.slots[7]? = some (.ref e7) := own_el vb Ar (k := 7) (by decide) rfl v7 q7
  have g8 : cl.slots[8]? = some (.ref e8) := own_el vb Ar (k := 8) (by decide) rfl v8 q8
  have g9 : cl.slots[9]? = some (.ref e9) := own_el vb Ar (k := 9) (by decide) rfl v9 q9
  have g10 : cl.slots[10]? = some (.ref e10) := own_el vb Ar (k := 10) (by decide) rfl v10 q10
  have g11 : cl.slots[11]? = some (.ref e11) := own_el vb Ar (k := 11) (by decide) rfl v11 q11
  have g12 : cl.slots[12]? = some (.ref e12) := own_el vb Ar (k := 12) (by decide) rfl v12 q12
  have g13 : cl.slots[13]? = some (.ref e13) := own_el vb Ar (k := 13) (by decide) rfl v13 q13
  have g14 : cl.slots[14]? = some (.ref e14) := own_el vb Ar (k := 14) (by decide) rfl v14 q14
  have g15 : cl.slots[15]? = some (.ref e15) := own_el vb Ar (k := 15) (by decide) rfl v15 q15
  have g16 : cl.slots[16]? = some (.ref e16) := own_el vb Ar (k := 16) (by decide) rfl v16 q16
  obtain ⟨em, vem⟩ := exa_v (Cond.before_iff.mp (hsets _ (List.mem_of_getElem? (i := 2) rfl)))
  have Sem : Sta s s.heap "java/util/Optional" "EMPTY" "Ljava/util/Optional;" (.ref em) := Sta.start vem (Or.inl (hsets _ (List.mem_of_getElem? (i := 1) rfl)))
  have Eem := Exa.start vem (Cond.before_iff.mp (hsets _ (List.mem_of_getElem? (i := 2) rfl)))
  have Fem : Fld s s.heap em "java/util/Optional" "value" "Ljava/lang/Object;" .null := Fld.start (by rw [← fld_at vem]; exact null_v (Cond.before_iff.mp (hsets _ (List.mem_of_getElem? (i := 3) rfl))))
  have hAV : Own.AV s s.heap bn false (.object "com/example/hedge5/hedge5/StatusCode") (own_vs (own_es [e0, e1, e2, e3, e4, e5, e6, e7, e8, e9, e10, e11, e12, e13, e14, e15, e16])) := by
    refine ⟨cl, Ar, ?_, by simp [own_vs], fun v hv => ?_, fun q => nomatch q⟩
    · refine List.ext_getElem? fun i => ?_
      by_cases hi : i < 17
      · rw [own_vs_at _ hi, Array.getElem?_toList]
        have : i = 0 ∨ i = 1 ∨ i = 2 ∨ i = 3 ∨ i = 4 ∨ i = 5 ∨ i = 6 ∨ i = 7 ∨ i = 8 ∨ i = 9 ∨ i = 10 ∨ i = 11 ∨ i = 12 ∨ i = 13 ∨ i = 14 ∨ i = 15 ∨ i = 16 := by omega
        rcases this with rfl | rfl | rfl | rfl | rfl | rfl | rfl | rfl | rfl | rfl | rfl | rfl | rfl | rfl | rfl | rfl | rfl <;> assumption
      · have q1 : cl.slots.toList[i]? = none := List.getElem?_eq_none (by rw [Array.length_toList, hlen]; omega)
        have q2 : (own_vs (own_es [e0, e1, e2, e3, e4, e5, e6, e7, e8, e9, e10, e11, e12, e13, e14, e15, e16]))[i]? = none := List.getElem?_eq_none (by simp [own_vs]; omega)
        rw [q1, q2]
    · simp only [own_vs, List.mem_map] at hv
      obtain ⟨i, -, rfl⟩ := hv; rfl
  have hS : Stat (l, s, #[.int i0, .int i1], true) (own_es [e0, e1, e2, e3, e4, e5, e6, e7, e8, e9, e10, e11, e12, e13, e14, e15, e16]) bn em := ⟨Sb, hAV, ⟨Sem, Eem, Fem⟩, S0, S1, S2, S3, S4, S5, S6, S7, S8, S9, S10, S11, S12, S13, S14, S15, S16⟩
  obtain ⟨n, o, g1, g2, g3, v, L, A, I, rfl, rfl, -, -, N, hq, hnw⟩ := ct_law (l, s, #[.int i0, .int i1], true) hw tables_1 hS i0 i1 p e ha hc hk s m _ below hf ((Spec.applies_iff_loose hf).mp happ).1 ⟨rfl, State.Warmed39.refl s, Own.Inv.start _ _ _ _, Own.LI.start s⟩ trivial
  exact ⟨n, _, g1, g2, g3, hpost _ _ _ _ _ _ ⟨Cond.after_iff.mpr rfl, Cond.after_iff.mpr (eq_i res_at (Term.int_eval (1)) rfl)⟩ ⟨⟨_, rfl⟩, hnw rfl, (hq.2.2.2.sift fun y hy => Or.inr (N y hy)).mono (by decide) (by decide)⟩⟩
theorem main_1_1 : Claimed_1_1 := comes_1 fun _ _ _ _ _ _ h hF => ⟨h.1, hF⟩
theorem main_1_2 : Claimed_1_2 := comes_1 fun _ _ _ _ _ _ h hF => ⟨h.2, hF⟩
end Jvm.Pilot.@@N@@
namespace Jvm.Pilot.@@N@@
open Jvm Jvm.ClassFile Sem Op Lib Jvm.Free Jvm.Stand Jvm.Pilot.@@N@@.Jvm.D
/-! MADE BY PROGRAM (witnessworld.py) out of the Statement's table words and the real class files: 15 classes; the members and pool entries that the words name. The judged class is class 1, her method 2. -/
namespace start1
open Jvm.ClassFile
def u (s : String) : CpInfo := .utf8 (stringToUtf16 s)
/-- a pool by its gaps: so many unusable entries, then the entry; so many at the end -/
def gap : Nat → List CpInfo → List CpInfo
  | 0, r => r
  | n + 1, r => .unusable :: gap n r
def poolList (es : List (Nat × CpInfo)) (last : Nat) : List CpInfo := es.foldr (fun e r => gap e.1 (e.2 :: r)) (gap last [])
def pool (es : List (Nat × CpInfo)) (last : Nat) : Array CpInfo := ⟨poolList es last⟩
def fileOf (pool : Array CpInfo) (this : Nat) (attrs : Array Attribute := #[]) (ms : Array MethodInfo := #[]) (fl : Nat := 33) (sup : Nat := 0) (ifs : Array Nat := #[]) (fds : Array FieldInfo := #[]) : ClassFile where
  minorVersion := 0
  majorVersion := 65
  constantPool := pool
  accessFlags := fl
  thisClass := this
  superClass := sup
  interfaces := ifs
  fields := fds
  methods := ms
  attributes := attrs
def plain (name : String) (sup : Option ClassId) : Class where
  name := name
  kind := .ordinary
  loader := none
  accessFlags := 33
  super := sup
  interfaces := #[]
  cf := none
  fields := #[]
  methods := #[]
  instanceTypes := #[]
  staticTypes := #[]
  resolved := #[]
  callSites := []
  init := .initialized
  statics := none
  mirror := none

def pool0 : Array CpInfo := pool [(5, u "<init>"), (0, u "()V"), (1, .class_ 10), (1, u "java/lang/Object")] 113

def k0c0 : Code := { maxStack := 0, maxLocals := 1, code := object_method_1_code, exceptionTable := #[], attributes := #[] }
def k0m0 : Method := { name := "<init>", desc := "()V", sig := { parameters := [], returnType := none }, accessFlags := 1, code := some k0c0 }
/-- java/lang/Object -/
def k0 : Class := { plain "java/lang/Object" none with
  accessFlags := 33
  interfaces := #[]
  cf := some (fileOf pool0 8 #[] #[{ accessFlags := 1, nameIndex := 5, descriptorIndex := 6, attributes := #[] }] 33 0 #[] #[])
  fields := #[]
  methods := #[k0m0]
  instanceTypes := #[]
  staticTypes := #[]
  resolved := Array.replicate 124 none
  statics := none }

def pool1 : Array CpInfo := pool [(2, .class_ 4), (1, u "java/lang/Object"), (0, u "<init>"), (0, u "()V"), (0, .fieldref 8 9), (0, .class_ 10), (0, .nameAndType 11 12), (0, u "com/example/hedge5/hedge5/StatusCode"), (0, u "OK"), (0, u "Lcom/example/hedge5/hedge5/StatusCode;"), (0, .fieldref 8 14), (0, .nameAndType 15 12), (0, u "CANCELLED"), (0, .fieldref 8 17), (0, .nameAndType 18 12), (0, u "UNKNOWN"), (0, .fieldref 8 20), (0, .nameAndType 21 12), (0, u "INVALID_ARGUMENT"), (0, .fieldref 8 23), (0, .nameAndType 24 12), (0, u "DEADLINE_EXCEEDED"), (0, .fieldref 8 26), (0, .nameAndType 27 12), (0, u "NOT_FOUND"), (0, .fieldref 8 29), (0, .nameAndType 30 12), (0, u "ALREADY_EXISTS"), (0, .fieldref 8 32), (0, .nameAndType 33 12), (0, u "PERMISSION_DENIED"), (0, .fieldref 8 35), (0, .nameAndType 36 12), (0, u "RESOURCE_EXHAUSTED"), (0, .fieldref 8 38), (0, .nameAndType 39 12), (0, u "FAILED_PRECONDITION"), (0, .fieldref 8 41), (0, .nameAndType 42 12), (0, u "ABORTED"), (0, .fieldref 8 44), (0, .nameAndType 45 12), (0, u "OUT_OF_RANGE"), (0, .fieldref 8 47), (0, .nameAndType 48 12), (0, u "UNIMPLEMENTED"), (0, .fieldref 8 50), (0, .nameAndType 51 12), (0, u "INTERNAL"), (0, .fieldref 8 53), (0, .nameAndType 54 12), (0, u "UNAVAILABLE"), (0, .fieldref 8 56), (0, .nameAndType 57 12), (0, u "DATA_LOSS"), (0, .fieldref 8 59), (0, .nameAndType 60 12), (0, u "UNAUTHENTICATED"), (0, .methodref 8 62), (0, .nameAndType 63 64), (0, u "forNumber"), (0, u "(I)Ljava/util/Optional;"), (0, .methodref 66 67), (0, .class_ 68), (0, .nameAndType 69 70), (0, u "com/example/hedge5/hedge5/StatusCodeForNumberPinLaw"), (0, u "expected"), (0, u "(I)Lcom/example/hedge5/hedge5/StatusCode;"), (0, .methodref 72 73), (0, .class_ 74), (0, .nameAndType 75 76), (0, u "java/util/Optional"), (0, u "isPresent"), (0, u "()Z"), (0, .methodref 72 78), (0, .nameAndType 79 80), (0, u "get"), (0, u "()Ljava/lang/Object;"), (3, u "law"), (0, u "(II)Z")] 2

def k1m0 : Method := { name := "<init>", desc := "()V", sig := { parameters := [], returnType := none }, accessFlags := 1, code := none }
def k1c1 : Code := { maxStack := 2, maxLocals := 1, code := method_2_code, exceptionTable := #[], attributes := #[] }
def k1m1 : Method := { name := "expected", desc := "(I)Lcom/example/hedge5/hedge5/StatusCode;", sig := { parameters := [.int], returnType := some (.object "com/example/hedge5/hedge5/StatusCode") }, accessFlags := 10, code := some k1c1 }
def k1c2 : Code := { maxStack := 2, maxLocals := 5, code := code, exceptionTable := #[], attributes := #[] }
def k1m2 : Method := { name := "law", desc := "(II)Z", sig := { parameters := [.int, .int], returnType := some .boolean }, accessFlags := 9, code := some k1c2 }
/-- com/example/hedge5/hedge5/StatusCodeForNumberPinLaw -/
def k1 : Class := { plain "com/example/hedge5/hedge5/StatusCodeForNumberPinLaw" (some 0) with
  accessFlags := 49
  interfaces := #[]
  cf := some (fileOf pool1 66 #[] #[{ accessFlags := 1, nameIndex := 5, descriptorIndex := 6, attributes := #[] }, { accessFlags := 10, nameIndex := 69, descriptorIndex := 70, attributes := #[] }, { accessFlags := 9, nameIndex := 84, descriptorIndex := 85, attributes := #[] }] 49 2 #[] #[])
  fields := #[]
  methods := #[k1m0, k1m1, k1m2]
  instanceTypes := #[]
  staticTypes := #[]
  resolved := Array.replicate 88 none
  statics := none }

def pool2 : Array CpInfo := pool [(1, .class_ 2), (0, u "java/lang/constant/Constable"), (0, .class_ 4), (0, u "java/lang/Object")] 6

/-- java/lang/constant/Constable -/
def k2 : Class := { plain "java/lang/constant/Constable" (some 0) with
  accessFlags := 1537
  interfaces := #[]
  cf := some (fileOf pool2 1 #[] #[] 1537 3 #[] #[])
  fields := #[]
  methods := #[]
  instanceTypes := #[]
  staticTypes := #[]
  resolved := Array.replicate 11 none
  statics := none }

def pool3 : Array CpInfo := pool [(1, .class_ 2), (0, u "java/lang/Comparable"), (0, .class_ 4), (0, u "java/lang/Object")] 7

/-- java/lang/Comparable -/
def k3 : Class := { plain "java/lang/Comparable" (some 0) with
  accessFlags := 1537
  interfaces := #[]
  cf := some (fileOf pool3 1 #[] #[] 1537 3 #[] #[])
  fields := #[]
  methods := #[]
  instanceTypes := #[]
  staticTypes := #[]
  resolved := Array.replicate 12 none
  statics := none }

def pool4 : Array CpInfo := pool [(1, .class_ 2), (0, u "java/io/Serializable"), (0, .class_ 4), (0, u "java/lang/Object")] 2

/-- java/io/Serializable -/
def k4 : Class := { plain "java/io/Serializable" (some 0) with
  accessFlags := 1537
  interfaces := #[]
  cf := some (fileOf pool4 1 #[] #[] 1537 3 #[] #[])
  fields := #[]
  methods := #[]
  instanceTypes := #[]
  staticTypes := #[]
  resolved := Array.replicate 7 none
  statics := none }

def pool5 : Array CpInfo := pool [(2, .class_ 4), (1, u "java/lang/Enum"), (0, u "name"), (0, u "Ljava/lang/String;"), (2, u "ordinal"), (0, u "I"), (1, .class_ 14), (1, u "java/lang/Object"), (4, u "hash"), (86, .class_ 108), (1, u "java/lang/Enum$EnumDesc"), (2, .class_ 112), (0, u "java/lang/constant/Constable"), (0, .class_ 114), (0, u "java/lang/Comparable"), (0, .class_ 116), (0, u "java/io/Serializable")] 87

/-- java/lang/Enum -/
def k5 : Class := { plain "java/lang/Enum" (some 0) with
  accessFlags := 1057
  interfaces := #[2, 3, 4]
  cf := some (fileOf pool5 2 #[.nestMembers #[106]] #[] 1057 12 #[111, 113, 115] #[{ accessFlags := 18, nameIndex := 5, descriptorIndex := 6, attributes := #[] }, { accessFlags := 18, nameIndex := 9, descriptorIndex := 10, attributes := #[] }, { accessFlags := 2, nameIndex := 19, descriptorIndex := 10, attributes := #[] }])
  fields := #[{ name := "name", type := (.object "java/lang/String"), accessFlags := 18, slot := 0, constantValue := 0 }, { name := "ordinal", type := .int, accessFlags := 18, slot := 1, constantValue := 0 }, { name := "hash", type := .int, accessFlags := 2, slot := 2, constantValue := 0 }]
  methods := #[]
  instanceTypes := #[(.object "java/lang/String"), .int, .int]
  staticTypes := #[]
  resolved := Array.replicate 204 none
  statics := none }

def pool6 : Array CpInfo := pool [(1, .class_ 2), (0, u "com/example/hedge5/hedge5/StatusCode"), (2, u "OK"), (0, u "Lcom/example/hedge5/hedge5/StatusCode;"), (2, u "CANCELLED"), (2, u "UNKNOWN"), (2, u "INVALID_ARGUMENT"), (2, u "DEADLINE_EXCEEDED"), (2, u "NOT_FOUND"), (2, u "ALREADY_EXISTS"), (2, u "PERMISSION_DENIED"), (2, u "RESOURCE_EXHAUSTED"), (2, u "FAILED_PRECONDITION"), (2, u "ABORTED"), (2, u "OUT_OF_RANGE"), (2, u "UNIMPLEMENTED"), (2, u "INTERNAL"), (2, u "UNAVAILABLE"), (2, u "DATA_LOSS"), (2, u "UNAUTHENTICATED"), (2, u "$VALUES"), (0, u "[Lcom/example/hedge5/hedge5/StatusCode;"), (6, .class_ 67), (1, u "java/lang/Enum"), (8, u "number"), (0, u "I"), (0, .fieldref 1 79), (0, .nameAndType 80 58), (0, u "BY_NUMBER"), (0, .methodref 82 83), (0, .class_ 84), (0, .nameAndType 85 86), (0, u "java/util/Optional"), (0, u "empty"), (0, u "()Ljava/util/Optional;"), (0, .methodref 82 88), (0, .nameAndType 89 90), (0, u "of"), (0, u "(Ljava/lang/Object;)Ljava/util/Optional;"), (8, u "BY_NAME"), (0, u "Ljava/util/Map;"), (60, u "forNumber"), (0, u "(I)Ljava/util/Optional;")] 11

def k6c0 : Code := { maxStack := 2, maxLocals := 1, code := prog_37_method_5_code, exceptionTable := #[], attributes := #[] }
def k6m0 : Method := { name := "forNumber", desc := "(I)Ljava/util/Optional;", sig := { parameters := [.int], returnType := some (.object "java/util/Optional") }, accessFlags := 9, code := some k6c0 }
/-- com/example/hedge5/hedge5/StatusCode -/
def k6 : Class := { plain "com/example/hedge5/hedge5/StatusCode" (some 5) with
  accessFlags := 16433
  interfaces := #[]
  cf := some (fileOf pool6 1 #[] #[{ accessFlags := 9, nameIndex := 161, descriptorIndex := 162, attributes := #[] }] 16433 65 #[] #[{ accessFlags := 16409, nameIndex := 5, descriptorIndex := 6, attributes := #[] }, { accessFlags := 16409, nameIndex := 9, descriptorIndex := 6, attributes := #[] }, { accessFlags := 16409, nameIndex := 12, descriptorIndex := 6, attributes := #[] }, { accessFlags := 16409, nameIndex := 15, descriptorIndex := 6, attributes := #[] }, { accessFlags := 16409, nameIndex := 18, descriptorIndex := 6, attributes := #[] }, { accessFlags := 16409, nameIndex := 21, descriptorIndex := 6, attributes := #[] }, { accessFlags := 16409, nameIndex := 24, descriptorIndex := 6, attributes := #[] }, { accessFlags := 16409, nameIndex := 27, descriptorIndex := 6, attributes := #[] }, { accessFlags := 16409, nameIndex := 30, descriptorIndex := 6, attributes := #[] }, { accessFlags := 16409, nameIndex := 33, descriptorIndex := 6, attributes := #[] }, { accessFlags := 16409, nameIndex := 36, descriptorIndex := 6, attributes := #[] }, { accessFlags := 16409, nameIndex := 39, descriptorIndex := 6, attributes := #[] }, { accessFlags := 16409, nameIndex := 42, descriptorIndex := 6, attributes := #[] }, { accessFlags := 16409, nameIndex := 45, descriptorIndex := 6, attributes := #[] }, { accessFlags := 16409, nameIndex := 48, descriptorIndex := 6, attributes := #[] }, { accessFlags := 16409, nameIndex := 51, descriptorIndex := 6, attributes := #[] }, { accessFlags := 16409, nameIndex := 54, descriptorIndex := 6, attributes := #[] }, { accessFlags := 26, nameIndex := 80, descriptorIndex := 58, attributes := #[] }, { accessFlags := 26, nameIndex := 99, descriptorIndex := 100, attributes := #[] }, { accessFlags := 18, nameIndex := 76, descriptorIndex := 77, attributes := #[] }, { accessFlags := 4122, nameIndex := 57, descriptorIndex := 58, attributes := #[] }])
  fields := #[{ name := "OK", type := (.object "com/example/hedge5/hedge5/StatusCode"), accessFlags := 16409, slot := 0, constantValue := 0 }, { name := "CANCELLED", type := (.object "com/example/hedge5/hedge5/StatusCode"), accessFlags := 16409, slot := 1, constantValue := 0 }, { name := "UNKNOWN", type := (.object "com/example/hedge5/hedge5/StatusCode"), accessFlags := 16409, slot := 2, constantValue := 0 }, { name := "INVALID_ARGUMENT", type := (.object "com/example/hedge5/hedge5/StatusCode"), accessFlags := 16409, slot := 3, constantValue := 0 }, { name := "DEADLINE_EXCEEDED", type := (.object "com/example/hedge5/hedge5/StatusCode"), accessFlags := 16409, slot := 4, constantValue := 0 }, { name := "NOT_FOUND", type := (.object "com/example/hedge5/hedge5/StatusCode"), accessFlags := 16409, slot := 5, constantValue := 0 }, { name := "ALREADY_EXISTS", type := (.object "com/example/hedge5/hedge5/StatusCode"), accessFlags := 16409, slot := 6, constantValue := 0 }, { name := "PERMISSION_DENIED", type := (.object "com/example/hedge5/hedge5/StatusCode"), accessFlags := 16409, slot := 7, constantValue := 0 }, { name := "RESOURCE_EXHAUSTED", type := (.object "com/example/hedge5/hedge5/StatusCode"), accessFlags := 16409, slot := 8, constantValue := 0 }, { name := "FAILED_PRECONDITION", type := (.object "com/example/hedge5/hedge5/StatusCode"), accessFlags := 16409, slot := 9, constantValue := 0 }, { name := "ABORTED", type := (.object "com/example/hedge5/hedge5/StatusCode"), accessFlags := 16409, slot := 10, constantValue := 0 }, { name := "OUT_OF_RANGE", type := (.object "com/example/hedge5/hedge5/StatusCode"), accessFlags := 16409, slot := 11, constantValue := 0 }, { name := "UNIMPLEMENTED", type := (.object "com/example/hedge5/hedge5/StatusCode"), accessFlags := 16409, slot := 12, constantValue := 0 }, { name := "INTERNAL", type := (.object "com/example/hedge5/hedge5/StatusCode"), accessFlags := 16409, slot := 13, constantValue := 0 }, { name := "UNAVAILABLE", type := (.object "com/example/hedge5/hedge5/StatusCode"), accessFlags := 16409, slot := 14, constantValue := 0 }, { name := "DATA_LOSS", type := (.object "com/example/hedge5/hedge5/StatusCode"), accessFlags := 16409, slot := 15, constantValue := 0 }, { name := "UNAUTHENTICATED", type := (.object "com/example/hedge5/hedge5/StatusCode"), accessFlags := 16409, slot := 16, constantValue := 0 }, { name := "BY_NUMBER", type := (.array (.object "com/example/hedge5/hedge5/StatusCode")), accessFlags := 26, slot := 17, constantValue := 0 }, { name := "BY_NAME", type := (.object "java/util/Map"), accessFlags := 26, slot := 18, constantValue := 0 }, { name := "number", type := .int, accessFlags := 18, slot := 3, constantValue := 0 }, { name := "$VALUES", type := (.array (.object "com/example/hedge5/hedge5/StatusCode")), accessFlags := 4122, slot := 19, constantValue := 0 }]
  methods := #[k6m0]
  instanceTypes := #[(.object "java/lang/String"), .int, .int, .int]
  staticTypes := #[(.object "com/example/hedge5/hedge5/StatusCode"), (.object "com/example/hedge5/hedge5/StatusCode"), (.object "com/example/hedge5/hedge5/StatusCode"), (.object "com/example/hedge5/hedge5/StatusCode"), (.object "com/example/hedge5/hedge5/StatusCode"), (.object "com/example/hedge5/hedge5/StatusCode"), (.object "com/example/hedge5/hedge5/StatusCode"), (.object "com/example/hedge5/hedge5/StatusCode"), (.object "com/example/hedge5/hedge5/StatusCode"), (.object "com/example/hedge5/hedge5/StatusCode"), (.object "com/example/hedge5/hedge5/StatusCode"), (.object "com/example/hedge5/hedge5/StatusCode"), (.object "com/example/hedge5/hedge5/StatusCode"), (.object "com/example/hedge5/hedge5/StatusCode"), (.object "com/example/hedge5/hedge5/StatusCode"), (.object "com/example/hedge5/hedge5/StatusCode"), (.object "com/example/hedge5/hedge5/StatusCode"), (.array (.object "com/example/hedge5/hedge5/StatusCode")), (.object "java/util/Map"), (.array (.object "com/example/hedge5/hedge5/StatusCode"))]
  resolved := Array.replicate 174 none
  statics := some 0 }

def pool7 : Array CpInfo := pool [(1, .fieldref 2 3), (0, .class_ 4), (0, .nameAndType 5 6), (0, u "java/util/Optional"), (0, u "EMPTY"), (0, u "Ljava/util/Optional;"), (0, .methodref 8 9), (0, .class_ 10), (0, .nameAndType 11 12), (0, u "java/lang/Object"), (0, u "<init>"), (0, u "()V"), (0, .fieldref 2 14), (0, .nameAndType 15 16), (0, u "value"), (0, u "Ljava/lang/Object;"), (0, .methodref 18 19), (0, .class_ 20), (0, .nameAndType 21 22), (0, u "java/util/Objects"), (0, u "requireNonNull"), (0, u "(Ljava/lang/Object;)Ljava/lang/Object;"), (0, .methodref 2 24), (0, .nameAndType 11 25), (0, u "(Ljava/lang/Object;)V"), (20, u "()Z"), (8, u "empty"), (0, u "()Ljava/util/Optional;"), (8, u "(Ljava/lang/Object;)Ljava/util/Optional;"), (2, u "isPresent"), (4, u "get"), (0, u "()Ljava/lang/Object;"), (7, u "of")] 104

def k7c0 : Code := { maxStack := 1, maxLocals := 1, code := jdk_32_method_1_code, exceptionTable := #[], attributes := #[] }
def k7m0 : Method := { name := "empty", desc := "()Ljava/util/Optional;", sig := { parameters := [], returnType := some (.object "java/util/Optional") }, accessFlags := 9, code := some k7c0 }
def k7c1 : Code := { maxStack := 2, maxLocals := 2, code := jdk_32_method_2_code, exceptionTable := #[], attributes := #[] }
def k7m1 : Method := { name := "<init>", desc := "(Ljava/lang/Object;)V", sig := { parameters := [(.object "java/lang/Object")], returnType := none }, accessFlags := 2, code := some k7c1 }
def k7c2 : Code := { maxStack := 3, maxLocals := 1, code := jdk_32_method_3_code, exceptionTable := #[], attributes := #[] }
def k7m2 : Method := { name := "of", desc := "(Ljava/lang/Object;)Ljava/util/Optional;", sig := { parameters := [(.object "java/lang/Object")], returnType := some (.object "java/util/Optional") }, accessFlags := 9, code := some k7c2 }
def k7c3 : Code := { maxStack := 3, maxLocals := 1, code := jdk_32_method_5_code, exceptionTable := #[], attributes := #[] }
def k7m3 : Method := { name := "get", desc := "()Ljava/lang/Object;", sig := { parameters := [], returnType := some (.object "java/lang/Object") }, accessFlags := 1, code := some k7c3 }
def k7c4 : Code := { maxStack := 1, maxLocals := 1, code := jdk_32_method_6_code, exceptionTable := #[], attributes := #[] }
def k7m4 : Method := { name := "isPresent", desc := "()Z", sig := { parameters := [], returnType := some .boolean }, accessFlags := 1, code := some k7c4 }
/-- java/util/Optional -/
def k7 : Class := { plain "java/util/Optional" (some 0) with
  accessFlags := 49
  interfaces := #[]
  cf := some (fileOf pool7 2 #[] #[{ accessFlags := 9, nameIndex := 55, descriptorIndex := 56, attributes := #[] }, { accessFlags := 2, nameIndex := 11, descriptorIndex := 25, attributes := #[] }, { accessFlags := 9, nameIndex := 82, descriptorIndex := 65, attributes := #[] }, { accessFlags := 1, nameIndex := 73, descriptorIndex := 74, attributes := #[] }, { accessFlags := 1, nameIndex := 68, descriptorIndex := 46, attributes := #[] }] 49 8 #[] #[{ accessFlags := 26, nameIndex := 5, descriptorIndex := 6, attributes := #[] }, { accessFlags := 18, nameIndex := 15, descriptorIndex := 16, attributes := #[] }])
  fields := #[{ name := "EMPTY", type := (.object "java/util/Optional"), accessFlags := 26, slot := 0, constantValue := 0 }, { name := "value", type := (.object "java/lang/Object"), accessFlags := 18, slot := 0, constantValue := 0 }]
  methods := #[k7m0, k7m1, k7m2, k7m3, k7m4]
  instanceTypes := #[(.object "java/lang/Object")]
  staticTypes := #[(.object "java/util/Optional")]
  resolved := Array.replicate 187 none
  statics := some 1 }

def pool8 : Array CpInfo := pool [(2, .class_ 4), (1, u "java/lang/Object"), (0, u "<init>"), (0, u "()V"), (35, .class_ 44), (1, u "java/util/Objects"), (0, u "requireNonNull"), (0, u "(Ljava/lang/Object;)Ljava/lang/Object;")] 137

def k8m0 : Method := { name := "<init>", desc := "()V", sig := { parameters := [], returnType := none }, accessFlags := 2, code := none }
def k8c1 : Code := { maxStack := 2, maxLocals := 1, code := jdk_31_method_10_code, exceptionTable := #[], attributes := #[] }
def k8m1 : Method := { name := "requireNonNull", desc := "(Ljava/lang/Object;)Ljava/lang/Object;", sig := { parameters := [(.object "java/lang/Object")], returnType := some (.object "java/lang/Object") }, accessFlags := 9, code := some k8c1 }
/-- java/util/Objects -/
def k8 : Class := { plain "java/util/Objects" (some 0) with
  accessFlags := 49
  interfaces := #[]
  cf := some (fileOf pool8 42 #[] #[{ accessFlags := 2, nameIndex := 5, descriptorIndex := 6, attributes := #[] }, { accessFlags := 9, nameIndex := 45, descriptorIndex := 46, attributes := #[] }] 49 2 #[] #[])
  fields := #[]
  methods := #[k8m0, k8m1]
  instanceTypes := #[]
  staticTypes := #[]
  resolved := Array.replicate 184 none
  statics := none }

def pool9 : Array CpInfo := pool [(1, u "java/lang/Cloneable"), (0, .class_ 1), (0, u "java/lang/Object"), (0, .class_ 3)] 3

/-- java/lang/Cloneable -/
def k9 : Class := { plain "java/lang/Cloneable" (some 0) with
  accessFlags := 1537
  interfaces := #[]
  cf := some (fileOf pool9 2 #[] #[] 1537 4 #[] #[])
  fields := #[]
  methods := #[]
  instanceTypes := #[]
  staticTypes := #[]
  resolved := Array.replicate 8 none
  statics := none }

/-- the primitive byte -/
def k10 : Class := { plain "byte" none with kind := .primitive 'B', accessFlags := 0x411 }
/-- [B -/
def k11 : Class := { plain "[B" (some 0) with kind := .array 10 .byte, interfaces := #[9, 4], accessFlags := 1041 }

/-- the primitive int -/
def k12 : Class := { plain "int" none with kind := .primitive 'I', accessFlags := 0x411 }
/-- [I -/
def k13 : Class := { plain "[I" (some 0) with kind := .array 12 .int, interfaces := #[9, 4], accessFlags := 1041 }

/-- [Lcom/example/hedge5/hedge5/StatusCode; -/
def k14 : Class := { plain "[Lcom/example/hedge5/hedge5/StatusCode;" (some 0) with kind := .array 6 (.object "com/example/hedge5/hedge5/StatusCode"), interfaces := #[9, 4], accessFlags := 1041 }

def heap : Heap := #[{ cls := 6, slots := #[.ref 3, .ref 4, .ref 5, .ref 6, .ref 7, .ref 8, .ref 9, .ref 10, .ref 11, .ref 12, .ref 13, .ref 14, .ref 15, .ref 16, .ref 17, .ref 18, .ref 19, .ref 2, .null, .null], vm := .statics 6 },
  { cls := 7, slots := #[.ref 20], vm := .statics 7 },
  { cls := 14, slots := #[.ref 3, .ref 4, .ref 5, .ref 6, .ref 7, .ref 8, .ref 9, .ref 10, .ref 11, .ref 12, .ref 13, .ref 14, .ref 15, .ref 16, .ref 17, .ref 18, .ref 19], vm := .none },
  { cls := 6, slots := #[.null, .int 0, .int 0, .int 0], vm := .none },
  { cls := 6, slots := #[.null, .int 1, .int 0, .int 1], vm := .none },
  { cls := 6, slots := #[.null, .int 2, .int 0, .int 2], vm := .none },
  { cls := 6, slots := #[.null, .int 3, .int 0, .int 3], vm := .none },
  { cls := 6, slots := #[.null, .int 4, .int 0, .int 4], vm := .none },
  { cls := 6, slots := #[.null, .int 5, .int 0, .int 5], vm := .none },
  { cls := 6, slots := #[.null, .int 6, .int 0, .int 6], vm := .none },
  { cls := 6, slots := #[.null, .int 7, .int 0, .int 7], vm := .none },
  { cls := 6, slots := #[.null, .int 8, .int 0, .int 8], vm := .none },
  { cls := 6, slots := #[.null, .int 9, .int 0, .int 9], vm := .none },
  { cls := 6, slots := #[.null, .int 10, .int 0, .int 10], vm := .none },
  { cls := 6, slots := #[.null, .int 11, .int 0, .int 11], vm := .none },
  { cls := 6, slots := #[.null, .int 12, .int 0, .int 12], vm := .none },
  { cls := 6, slots := #[.null, .int 13, .int 0, .int 13], vm := .none },
  { cls := 6, slots := #[.null, .int 14, .int 0, .int 14], vm := .none },
  { cls := 6, slots := #[.null, .int 15, .int 0, .int 15], vm := .none },
  { cls := 6, slots := #[.null, .int 16, .int 0, .int 16], vm := .none },
  { cls := 7, slots := #[.null], vm := .none }]
def classes : Array Class := #[k0, k1, k2, k3, k4, k5, k6, k7, k8, k9, k10, k11, k12, k13, k14]
def interned : List (Array UInt16 × Addr) := []
def slotsUsed : Nat := 107
def theMethod : MethodId := ⟨1, 2⟩
def args0 : Array Value := #[.int 5, .int 1]
def aboutOver (below : List Frame) : State where
  vm := { classes := classes, interned := interned.toArray }
  heap := heap
  slotsUsed := slotsUsed
  threads := #[{ frames := .invoking theMethod args0 :: below }]
def below0 : List Frame := [.native { method := ⟨0, 0⟩, args := #[] }]
def about1 : State := aboutOver below0
def p0 : Program := .bare "" "" ""
def e0 : Env := launch0.env 0 0 0
theorem w_frames : about1.frames = Frame.invoking theMethod args0 :: below0 := rfl
set_option maxRecDepth 65536 in
theorem w_args : argsFit about1.vm theMethod args0 = true := by decide +kernel
set_option maxRecDepth 65536 in
theorem w_heap : heapFits about1 = true := by decide +kernel
set_option maxRecDepth 65536 in
theorem w_runnable : about1.curStatus? = some .runnable := by decide +kernel
set_option maxRecDepth 65536 in
theorem w_alone : about1.alone = true := by decide +kernel
set_option maxRecDepth 65536 in
theorem w_named : about1.methodNamed? x = some theMethod := by decide +kernel
set_option maxRecDepth 65536 in
theorem w_hears : about1.hears theMethod below0 = true := by decide +kernel
set_option maxRecDepth 65536 in
theorem w_ripe : about1.ripe theMethod args0 below0 = true := by decide +kernel
theorem w_running : about1.status = .running := rfl
set_option maxRecDepth 65536 in
theorem w_room : about1.hasRoom e0.platform room_1 = true :=
  launch0.hasRoom_least _ room_1 (by decide +kernel) (by decide +kernel) (by decide +kernel) (by decide +kernel) (by decide +kernel) (by decide +kernel)
theorem allAtoms_all (ts : List Jvm.Cond) (a : Array Jvm.Value) (st : Jvm.State) : (allAtoms ts).before a st = ts.all (fun c => c.before a st) := by
  induction ts with
  | nil => rfl
  | cons c t ih =>
    show (Jvm.Cond.and c (allAtoms t)).before a st = _
    rw [Jvm.Cond.before_and, ih, List.all_cons]
def words1 : List Jvm.Cond := Jvm.Cond.code x code maxLocals ret :: tables_1
/-- a 'code' word, met by the world's own term for the bytes: nothing is compared byte by byte -/
theorem code_word {y : MethodName} {bytes : ByteArray} {mx : Nat} {rt : Option FieldType} {a : Array Value} {s : State} {m : MethodId} {meth : Method} {c : Code} (h1 : s.methodNamed? y = some m) (h2 : s.vm.method? m = some meth) (h3 : meth.code = some c) (h4 : c.code = bytes)
    (h5 : (c.maxLocals == mx && c.exceptionTable.isEmpty && decide (c.maxStack ≤ mostOperands) && decide (meth.sig.returnType = rt) && !meth.locks && decide (parseMethodDescriptor y.desc = some meth.sig)) = true) : (Jvm.Cond.code y bytes mx rt).before a s = true := by
  simp only [Bool.and_eq_true, beq_iff_eq, Bool.not_eq_true', decide_eq_true_eq] at h5
  obtain ⟨⟨⟨⟨⟨g1, g2⟩, g3⟩, g4⟩, g5⟩, g6⟩ := h5
  simp [Cond.before, Cond.holds, Cond.value, h1, h2, h3, h4, g1, g2, g3, g4, g5, g6]
def isCode : Jvm.Cond → Bool
  | .code _ _ _ _ => true
  | _ => false
theorem all_split {L : List Jvm.Cond} {P : Jvm.Cond → Bool} (h1 : L.all (fun c => isCode c || P c) = true) (h2 : ∀ c ∈ L.filter isCode, P c = true) : L.all P = true := by
  refine List.all_eq_true.mpr fun c hc => ?_
  have h := List.all_eq_true.mp h1 c hc
  rcases Bool.eq_false_or_eq_true (isCode c) with hi | hi
  · exact h2 c (List.mem_filter.mpr ⟨hc, hi⟩)
  · simpa [hi] using h
set_option maxRecDepth 65536 in
theorem w_c0 : (Jvm.Cond.code x code maxLocals ret).before args0 about1 = true := code_word (m := ⟨1, 2⟩) (meth := k1m2) (c := k1c2) (by decide +kernel) rfl rfl rfl (by decide +kernel)
set_option maxRecDepth 65536 in
theorem w_c1 : (Jvm.Cond.code ({ cls := "com/example/hedge5/hedge5/StatusCode", name := "forNumber", desc := "(I)Ljava/util/Optional;" } : Jvm.MethodName) prog_37_method_5_code (1 : Nat) (Option.some (Jvm.ClassFile.FieldType.object "java/util/Optional"))).before args0 about1 = true := code_word (m := ⟨6, 0⟩) (meth := k6m0) (c := k6c0) (by decide +kernel) rfl rfl rfl (by decide +kernel)
set_option maxRecDepth 65536 in
theorem w_c2 : (Jvm.Cond.code ({ cls := "java/util/Optional", name := "of", desc := "(Ljava/lang/Object;)Ljava/util/Optional;" } : Jvm.MethodName) jdk_32_method_3_code (1 : Nat) (Option.some (Jvm.ClassFile.FieldType.object "java/util/Optional"))).before args0 about1 = true := code_word (m := ⟨7, 2⟩) (meth := k7m2) (c := k7c2) (by decide +kernel) rfl rfl rfl (by decide +kernel)
set_option maxRecDepth 65536 in
theorem w_c3 : (Jvm.Cond.code ({ cls := "java/util/Objects", name := "requireNonNull", desc := "(Ljava/lang/Object;)Ljava/lang/Object;" } : Jvm.MethodName) jdk_31_method_10_code (1 : Nat) (Option.some (Jvm.ClassFile.FieldType.object "java/lang/Object"))).before args0 about1 = true := code_word (m := ⟨8, 1⟩) (meth := k8m1) (c := k8c1) (by decide +kernel) rfl rfl rfl (by decide +kernel)
set_option maxRecDepth 65536 in
theorem w_c4 : (Jvm.Cond.code ({ cls := "java/util/Optional", name := "<init>", desc := "(Ljava/lang/Object;)V" } : Jvm.MethodName) jdk_32_method_2_code (2 : Nat) (Option.none : Option Jvm.ClassFile.FieldType)).before args0 about1 = true := code_word (m := ⟨7, 1⟩) (meth := k7m1) (c := k7c1) (by decide +kernel) rfl rfl rfl (by decide +kernel)
set_option maxRecDepth 65536 in
theorem w_c5 : (Jvm.Cond.code ({ cls := "java/lang/Object", name := "<init>", desc := "()V" } : Jvm.MethodName) object_method_1_code (1 : Nat) (Option.none : Option Jvm.ClassFile.FieldType)).before args0 about1 = true := code_word (m := ⟨0, 0⟩) (meth := k0m0) (c := k0c0) (by decide +kernel) rfl rfl rfl (by decide +kernel)
set_option maxRecDepth 65536 in
theorem w_c6 : (Jvm.Cond.code ({ cls := "com/example/hedge5/hedge5/StatusCodeForNumberPinLaw", name := "expected", desc := "(I)Lcom/example/hedge5/hedge5/StatusCode;" } : Jvm.MethodName) method_2_code (1 : Nat) (Option.some (Jvm.ClassFile.FieldType.object "com/example/hedge5/hedge5/StatusCode"))).before args0 about1 = true := code_word (m := ⟨1, 1⟩) (meth := k1m1) (c := k1c1) (by decide +kernel) rfl rfl rfl (by decide +kernel)
set_option maxRecDepth 65536 in
theorem w_c7 : (Jvm.Cond.code ({ cls := "java/util/Optional", name := "isPresent", desc := "()Z" } : Jvm.MethodName) jdk_32_method_6_code (1 : Nat) (Option.some Jvm.ClassFile.FieldType.boolean)).before args0 about1 = true := code_word (m := ⟨7, 4⟩) (meth := k7m4) (c := k7c4) (by decide +kernel) rfl rfl rfl (by decide +kernel)
set_option maxRecDepth 65536 in
theorem w_c8 : (Jvm.Cond.code ({ cls := "java/util/Optional", name := "get", desc := "()Ljava/lang/Object;" } : Jvm.MethodName) jdk_32_method_5_code (1 : Nat) (Option.some (Jvm.ClassFile.FieldType.object "java/lang/Object"))).before args0 about1 = true := code_word (m := ⟨7, 3⟩) (meth := k7m3) (c := k7c3) (by decide +kernel) rfl rfl rfl (by decide +kernel)
set_option maxRecDepth 65536 in
theorem w_c9 : (Jvm.Cond.code ({ cls := "java/util/Optional", name := "empty", desc := "()Ljava/util/Optional;" } : Jvm.MethodName) jdk_32_method_1_code (1 : Nat) (Option.some (Jvm.ClassFile.FieldType.object "java/util/Optional"))).before args0 about1 = true := code_word (m := ⟨7, 0⟩) (meth := k7m0) (c := k7c0) (by decide +kernel) rfl rfl rfl (by decide +kernel)
def codes1 : List Jvm.Cond := [Jvm.Cond.code x code maxLocals ret, Jvm.Cond.code ({ cls := "com/example/hedge5/hedge5/StatusCode", name := "forNumber", desc := "(I)Ljava/util/Optional;" } : Jvm.MethodName) prog_37_method_5_code (1 : Nat) (Option.some (Jvm.ClassFile.FieldType.object "java/util/Optional")), Jvm.Cond.code ({ cls := "java/util/Optional", name := "of", desc := "(Ljava/lang/Object;)Ljava/util/Optional;" } : Jvm.MethodName) jdk_32_method_3_code (1 : Nat) (Option.some (Jvm.ClassFile.FieldType.object "java/util/Optional")), Jvm.Cond.code ({ cls := "java/util/Objects", name := "requireNonNull", desc := "(Ljava/lang/Object;)Ljava/lang/Object;" } : Jvm.MethodName) jdk_31_method_10_code (1 : Nat) (Option.some (Jvm.ClassFile.FieldType.object "java/lang/Object")), Jvm.Cond.code ({ cls := "java/util/Optional", name := "<init>", desc := "(Ljava/lang/Object;)V" } : Jvm.MethodName) jdk_32_method_2_code (2 : Nat) (Option.none : Option Jvm.ClassFile.FieldType), Jvm.Cond.code ({ cls := "java/lang/Object", name := "<init>", desc := "()V" } : Jvm.MethodName) object_method_1_code (1 : Nat) (Option.none : Option Jvm.ClassFile.FieldType), Jvm.Cond.code ({ cls := "com/example/hedge5/hedge5/StatusCodeForNumberPinLaw", name := "expected", desc := "(I)Lcom/example/hedge5/hedge5/StatusCode;" } : Jvm.MethodName) method_2_code (1 : Nat) (Option.some (Jvm.ClassFile.FieldType.object "com/example/hedge5/hedge5/StatusCode")), Jvm.Cond.code ({ cls := "java/util/Optional", name := "isPresent", desc := "()Z" } : Jvm.MethodName) jdk_32_method_6_code (1 : Nat) (Option.some Jvm.ClassFile.FieldType.boolean), Jvm.Cond.code ({ cls := "java/util/Optional", name := "get", desc := "()Ljava/lang/Object;" } : Jvm.MethodName) jdk_32_method_5_code (1 : Nat) (Option.some (Jvm.ClassFile.FieldType.object "java/lang/Object")), Jvm.Cond.code ({ cls := "java/util/Optional", name := "empty", desc := "()Ljava/util/Optional;" } : Jvm.MethodName) jdk_32_method_1_code (1 : Nat) (Option.some (Jvm.ClassFile.FieldType.object "java/util/Optional"))]
set_option maxRecDepth 65536 in
theorem codes_eq : words1.filter isCode = codes1 := rfl
theorem w_codes : ∀ c ∈ words1.filter isCode, c.before args0 about1 = true := by
  rw [codes_eq]
  intro c hc
  simp only [codes1, List.mem_cons, List.not_mem_nil, or_false] at hc
  rcases hc with rfl | rfl | rfl | rfl | rfl | rfl | rfl | rfl | rfl | rfl
  · exact w_c0
  · exact w_c1
  · exact w_c2
  · exact w_c3
  · exact w_c4
  · exact w_c5
  · exact w_c6
  · exact w_c7
  · exact w_c8
  · exact w_c9
set_option maxRecDepth 65536 in
theorem w_t1 : (words1.take 24).all (fun c => isCode c || c.before args0 about1) = true := by decide +kernel
set_option maxRecDepth 65536 in
theorem w_t2 : ((words1.drop 24).take 24).all (fun c => isCode c || c.before args0 about1) = true := by decide +kernel
set_option maxRecDepth 65536 in
theorem w_t3 : (((words1.drop 24).drop 24).take 24).all (fun c => isCode c || c.before args0 about1) = true := by decide +kernel
set_option maxRecDepth 65536 in
theorem w_t4 : (((words1.drop 24).drop 24).drop 24).all (fun c => isCode c || c.before args0 about1) = true := by decide +kernel
theorem w_tables : (allAtoms (Jvm.Cond.code x code maxLocals ret :: tables_1)).before args0 about1 = true := by
  rw [allAtoms_all]
  show words1.all (fun c => c.before args0 about1) = true
  refine all_split ?_ w_codes
  rw [← List.take_append_drop 24 words1, List.all_append, w_t1, ← List.take_append_drop 24 (words1.drop 24), List.all_append, w_t2, ← List.take_append_drop 24 ((words1.drop 24).drop 24), List.all_append, w_t3, w_t4]
  rfl
set_option maxRecDepth 65536 in
theorem w_rest : rest_1_c.before args0 about1 = true := by decide +kernel
set_option maxRecDepth 65536 in
theorem w_case : (Jvm.Cond.and given_1 narrow_1).before args0 about1 = true := by decide +kernel
theorem w_applies : (headSpec (Jvm.Cond.code x code maxLocals ret :: tables_1) room_1).applies x e0.platform about1 = true :=
  (Spec.applies_iff w_frames).mpr ⟨w_running, w_runnable, w_alone, w_named, w_hears, w_ripe, w_room, w_tables⟩
theorem atStart : AtStart classFile x code maxLocals ret World_1 tables_1 room_1 Calls_1 rest_1 Pre_1 launch0 p0 e0 about1 theMethod args0 below0 :=
  ⟨lists_1, trivial, launch0.admits_env _ _ _, launch0.least_env, fairChoices_fair.cas, fairChoices_fair.clock, w_frames, w_args, w_heap, w_applies, trivial, w_rest, w_case⟩
end start1
theorem witness_1 : WitnessClaimed_1 := ⟨start1.p0, start1.e0, start1.about1, start1.theMethod, start1.args0, start1.below0, start1.atStart⟩
end Jvm.Pilot.@@N@@
