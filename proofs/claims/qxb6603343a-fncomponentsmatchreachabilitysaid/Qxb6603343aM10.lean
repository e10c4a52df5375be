import Derived.Test.Qxb6603343aM9
import Derived.Test.Qxb6603343aG5
namespace Go.Proofs.Qxb6603343a
open Go.RowKit
set_option linter.unusedVariables false

/-! ### the path's frames -/
def frames (nodes : List Nat) (ec : Nat → Nat) : List Value := nodes.flatMap (fun v : Nat => [Value.int .i64 (v : Int), Value.int .i64 (ec v : Int)])

theorem frames_nil (ec : Nat → Nat) : frames [] ec = [] := rfl
theorem frames_snoc (P : List Nat) (m : Nat) (ec : Nat → Nat) : frames (P ++ [m]) ec = frames P ec ++ [.int .i64 (m : Int), .int .i64 (ec m : Int)] := by simp [frames]
theorem frames_length (P : List Nat) (ec : Nat → Nat) : (frames P ec).length = P.length * 2 := by
  induction P with
  | nil => rfl
  | cons a l ih =>
    have : frames (a :: l) ec = [.int .i64 (a : Int), .int .i64 (ec a : Int)] ++ frames l ec := rfl
    rw [this, List.length_append, ih]; simp; omega
theorem frames_congr {P : List Nat} {e1 e2 : Nat → Nat} (h : ∀ v ∈ P, e1 v = e2 v) : frames P e1 = frames P e2 := by
  induction P with
  | nil => rfl
  | cons a l ih =>
    have x1 : frames (a :: l) e1 = [.int .i64 (a : Int), .int .i64 (e1 a : Int)] ++ frames l e1 := rfl
    have x2 : frames (a :: l) e2 = [.int .i64 (a : Int), .int .i64 (e2 a : Int)] ++ frames l e2 := rfl
    rw [x1, x2, ih (fun v hv => h v (List.mem_cons_of_mem _ hv)), h a (List.mem_cons_self ..)]
theorem frames_node (P : List Nat) (m : Nat) (ec : Nat → Nat) : (frames (P ++ [m]) ec)[P.length * 2]? = some (.int .i64 (m : Int)) := by
  rw [frames_snoc, List.getElem?_append_right (by rw [frames_length]; exact Nat.le_refl _), frames_length, Nat.sub_self]; rfl
theorem frames_ec (P : List Nat) (m : Nat) (ec : Nat → Nat) : (frames (P ++ [m]) ec)[P.length * 2 + 1]? = some (.int .i64 (ec m : Int)) := by
  rw [frames_snoc, List.getElem?_append_right (by rw [frames_length]; omega), frames_length]
  have : P.length * 2 + 1 - P.length * 2 = 1 := by omega
  rw [this]; rfl
theorem frames_set {P : List Nat} {m : Nat} (hm : m ∉ P) (ec : Nat → Nat) (k : Nat) : (frames (P ++ [m]) ec).set (P.length * 2 + 1) (.int .i64 (k : Int)) = frames (P ++ [m]) (upd ec m k) := by
  rw [frames_snoc, frames_snoc, List.set_append_right _ _ (by rw [frames_length]; omega), frames_length]
  have : P.length * 2 + 1 - P.length * 2 = 1 := by omega
  rw [this, upd_same]
  rw [frames_congr (e1 := ec) (e2 := upd ec m k) (fun v hv => (upd_other _ _ (fun e => hm (by rw [← e]; exact hv))).symm)]
  rfl

/-! ### rows of the call's own -/
theorem own_cut {w : World} {B : Nat} {e : TypeId} {s g n cap m : Nat} {xs : List Value} (h : w.ownsRow B e s (.slice (some ⟨g, 0, none⟩) n cap) n xs) (hm : m ≤ n) : w.ownsRow B e s (.slice (some ⟨g, 0, none⟩) m cap) m (xs.take (m * s)) := by
  rcases h.2 with ⟨h', _⟩ | ⟨g', cap', cur, h', hb, hg, hnc, hcm, hcs, htake⟩
  · simp at h'
  · simp only [Value.slice.injEq, Option.some.injEq, Addr.mk.injEq, and_true, true_and] at h'
    obtain ⟨rfl, rfl⟩ := h'
    have hms : m * s ≤ n * s := Nat.mul_le_mul_right _ hm
    refine ⟨by rw [List.length_take, h.1, Nat.min_eq_left hms], .inr ⟨g, cap, cur, rfl, hb, hg, by omega, hcm, hcs, ?_⟩⟩
    rw [← htake, List.take_take, Nat.min_eq_left hms]
theorem own_val {w : World} {B : Nat} {e : TypeId} {s n : Nat} {v : Value} {xs : List Value} (h : w.ownsRow B e s v n xs) (hn : 0 < n) : ∃ g cap, v = .slice (some ⟨g, 0, none⟩) n cap ∧ n ≤ cap := by
  rcases h.2 with ⟨_, h0⟩ | ⟨g, cap, cur, h', _, _, hc, _⟩
  · omega
  · exact ⟨g, cap, h', hc⟩
theorem own_base {w : World} {B B' : Nat} {e : TypeId} {s n : Nat} {v : Value} {xs : List Value} (h : w.ownsRow B e s v n xs) (hb : B' ≤ B) : w.ownsRow B' e s v n xs := by
  refine ⟨h.1, ?_⟩
  rcases h.2 with a | ⟨g, cap, cur, b1, b2, b3⟩
  · exact .inl a
  · exact .inr ⟨g, cap, cur, b1, by omega, b3⟩
/-- The changed row lies below B, or is of another element type. -/
def Off (B : Nat) (e : TypeId) (wr : World) (row : Option Nat) : Prop := ∀ b, row = some b → b < B ∨ ∃ c t f, wr.heap[b]? = some (.cells c t f) ∧ t ≠ e
theorem own_off {w : World} {B : Nat} {e : TypeId} {s n : Nat} {v : Value} {xs : List Value} {row : Option Nat} (h : w.ownsRow B e s v n xs) (hr : Off B e w row) : v.ownBlock = none ∨ v.ownBlock ≠ row := by
  rcases h.2 with ⟨a, _⟩ | ⟨g, cap, cur, a, hb, hg, _⟩
  · left; rw [a]; rfl
  · right
    rw [a]
    intro e1
    rcases hr g e1.symm with x | ⟨c, t, f, x1, x2⟩
    · omega
    · rw [hg] at x1
      have := Option.some.inj x1
      simp only [Obj.cells.injEq] at this
      exact x2 this.2.1.symm
theorem off_none (B : Nat) (e : TypeId) (w : World) : Off B e w none := fun b h => nomatch h
theorem off_low {B : Nat} {e : TypeId} {w : World} {b : Nat} (h : b < B) : Off B e w (some b) := fun b' h' => .inl (by rw [← Option.some.inj h']; exact h)
theorem off_own {B B' : Nat} {e e' : TypeId} {w : World} {s n : Nat} {v : Value} {xs : List Value} (h : w.ownsRow B' e' s v n xs) (hne : e' ≠ e) : Off B e w v.ownBlock := by
  intro b hb
  rcases h.2 with ⟨a, _⟩ | ⟨g, cap, cur, a, _, hg, _⟩
  · rw [a] at hb; cases hb
  · rw [a] at hb
    have e1 : g = b := Option.some.inj hb
    exact .inr ⟨cur, e', (0, 0), by rw [← e1]; exact hg, hne⟩
theorem own_keep {B1 : Nat} {sv : Value} {wr w' : World} (hK : Kept B1 sv wr w') {e : TypeId} {s n : Nat} {v : Value} {xs : List Value} (h : wr.ownsRow B1 e s v n xs) (hne : v.ownBlock = none ∨ v.ownBlock ≠ sv.ownBlock) : w'.ownsRow B1 e s v n xs := by
  refine ⟨h.1, ?_⟩
  rcases h.2 with a | ⟨g, cap, cur, a, hb, hg, r⟩
  · exact .inl a
  · refine .inr ⟨g, cap, cur, a, hb, ?_, r⟩
    rw [hK.2 g hb (lt_of_block hg) (fun e => by
      rw [a] at hne
      rcases hne with x | x
      · cases x
      · exact x e.symm)]
    exact hg
theorem grown_set (w : World) (a : Addr) (v : Value) : w.grownBy (w.setCell a v) (some a.block) :=
  ⟨rfl, rfl, rfl, by rw [size_setCell]; exact Nat.le_refl _, fun k _ hk => Below.heap_setCell _ _ _ _ (fun e => hk (by rw [e]))⟩
theorem grown_drewN (w : World) (k : Nat) : w.grownBy (w.drewN k) none := ⟨rfl, rfl, rfl, Nat.le_refl _, fun _ _ _ => rfl⟩
theorem grown_drew (w : World) : w.grownBy w.drew none := ⟨rfl, rfl, rfl, Nat.le_refl _, fun _ _ _ => rfl⟩

theorem TMem.off {E : Env} {n : Nat} {w0 : World} {idx low : Nat → Nat} {on stk : List Nat} {next : Nat} {sv : Value} {wr w' : World} {row : Option Nat} (h : TMem E n w0 idx low on stk next sv wr) (hg : wr.grownBy w' row) (hr : ∀ b, row = some b → E.B1 ≤ b ∧ sv.ownBlock ≠ some b) : TMem E n w0 idx low on stk next sv w' :=
  h.step hg.size hg.os hg.tape hg.output (fun b hb hlt => hg.block b hlt (fun e => by
    obtain ⟨h1, h2⟩ := hr b e.symm
    rcases hb with x | x
    · omega
    · exact h2 x))

/-! ### the components so far -/
def CompsIn (B1 Bc : Nat) (sv cv : Value) (comps : List (List Nat)) (wr : World) : Prop :=
  ∃ rvs, wr.ownsRow B1 26 1 cv comps.length rvs ∧ RowsAt wr B1 rvs comps ∧ (∀ rv ∈ rvs, rv.ownBlock = none ∨ rv.ownBlock ≠ sv.ownBlock) ∧ ∀ rv ∈ rvs, ∀ b, rv.ownBlock = some b → b < Bc

theorem CompsIn.grown {B1 Bc : Nat} {sv cv : Value} {comps : List (List Nat)} {wr w' : World} {row : Option Nat} (h : CompsIn B1 Bc sv cv comps wr) (hg : wr.grownBy w' row) (h1 : Off B1 26 wr row) (h2 : Off B1 3 wr row) : CompsIn B1 Bc sv cv comps w' := by
  obtain ⟨rvs, r1, r2, r3, r4⟩ := h
  refine ⟨rvs, r1.kept hg (own_off r1 h1), r2.kept hg (fun rv hr => ?_), r3, r4⟩
  obtain ⟨c, _, ho⟩ := r2.mem hr
  exact own_off ho h2
theorem CompsIn.high {B1 Bc : Nat} {sv cv : Value} {comps : List (List Nat)} {wr w' : World} {row : Option Nat} (h : CompsIn B1 Bc sv cv comps wr) (hg : wr.grownBy w' row) (h1 : Off B1 26 wr row) (h2 : ∀ b, row = some b → Bc ≤ b) : CompsIn B1 Bc sv cv comps w' := by
  obtain ⟨rvs, r1, r2, r3, r4⟩ := h
  refine ⟨rvs, r1.kept hg (own_off r1 h1), r2.kept hg (fun rv hr => ?_), r3, r4⟩
  cases hrv : rv.ownBlock with
  | none => exact .inl rfl
  | some b =>
    right
    intro e
    have x1 := r4 rv hr b hrv
    have x2 := h2 b e.symm
    omega
theorem CompsIn.visit {B1 Bc : Nat} {sv sv' cv : Value} {comps : List (List Nat)} {wr w' : World} {k : Nat} {ys : List Value} (h : CompsIn B1 Bc sv cv comps wr) (ho : wr.ownsRow B1 3 1 sv k ys) (hK : Kept B1 sv wr w') (hs : sv'.ownBlock = sv.ownBlock ∨ ∃ b, sv'.ownBlock = some b ∧ wr.heap.size ≤ b) : CompsIn B1 Bc sv' cv comps w' := by
  obtain ⟨rvs, r1, r2, r3, r4⟩ := h
  have rl := r2.lt
  refine ⟨rvs, own_keep hK r1 (own_ne r1 ho (by decide)), ⟨r2.1, fun k rv c e1 e2 => own_keep hK (r2.2 k rv c e1 e2) (r3 rv (List.mem_of_getElem? e1))⟩, fun rv hr => ?_, r4⟩
  rcases r3 rv hr with x | x
  · exact .inl x
  · right
    rcases hs with y | ⟨b, y1, y2⟩
    · rw [y]; exact x
    · rw [y1]
      intro e
      have := rl rv hr b e
      omega
theorem CompsIn.bound {B1 Bc Bd : Nat} {sv cv : Value} {comps : List (List Nat)} {wr : World} (h : CompsIn B1 Bc sv cv comps wr) (hb : wr.heap.size ≤ Bd) : CompsIn B1 Bd sv cv comps wr := by
  obtain ⟨rvs, r1, r2, r3, r4⟩ := h
  exact ⟨rvs, r1, r2, r3, fun rv hr b e => by have := r2.lt rv hr b e; omega⟩
theorem CompsIn.sv {B1 Bc : Nat} {sv sv' cv : Value} {comps : List (List Nat)} {wr : World} (h : CompsIn B1 Bc sv cv comps wr) (e : sv'.ownBlock = sv.ownBlock) : CompsIn B1 Bc sv' cv comps wr := by
  obtain ⟨rvs, r1, r2, r3, r4⟩ := h
  exact ⟨rvs, r1, r2, fun rv hr => by rw [e]; exact r3 rv hr, r4⟩

/-! ### the whole -/
structure RMem (E : Env) (n : Nat) (w0 : World) (st : St) (sv cv : Value) (wr : World) : Prop where
  tm : TMem E n w0 st.idx st.low st.stk st.stk st.next sv wr
  cm : CompsIn E.B1 wr.heap.size sv cv st.comps wr

structure CMem (E : Env) (n : Nat) (w0 : World) (st : St) (sv cv pv : Value) (wr : World) : Prop where
  rm : RMem E n w0 st sv cv wr
  pt : wr.ownsRow E.B1 31 2 pv st.nodes.length (frames st.nodes st.ec)

section
variable {E : Env} {n : Nat} {w0 : World} {st : St} {sv cv pv : Value} {wr w' : World}

theorem RMem.quiet (h : RMem E n w0 st sv cv wr) (hg : wr.grownBy w' none) : RMem E n w0 st sv cv w' :=
  ⟨h.tm.off hg (fun b e => nomatch e), (h.cm.grown hg (off_none _ _ _) (off_none _ _ _)).bound (Nat.le_refl _)⟩
theorem CMem.quiet (h : CMem E n w0 st sv cv pv wr) (hg : wr.grownBy w' none) : CMem E n w0 st sv cv pv w' :=
  ⟨h.rm.quiet hg, h.pt.kept hg (own_off h.pt (off_none _ _ _))⟩
theorem CMem.drewN (h : CMem E n w0 st sv cv pv wr) (k : Nat) : CMem E n w0 st sv cv pv (wr.drewN k) := h.quiet (grown_drewN wr k)
theorem CMem.drew (h : CMem E n w0 st sv cv pv wr) : CMem E n w0 st sv cv pv wr.drew := h.quiet (grown_drew wr)
theorem RMem.alloc (h : RMem E n w0 st sv cv wr) (o : Obj) : RMem E n w0 st sv cv (wr.alloc o) := h.quiet (World.grownBy_alloc _ _ _)
theorem CMem.alloc (h : CMem E n w0 st sv cv pv wr) (o : Obj) : CMem E n w0 st sv cv pv (wr.alloc o) := h.quiet (World.grownBy_alloc _ _ _)

theorem RMem.path (h : RMem E n w0 st sv cv wr) {k : Nat} {xs : List Value} (ho : wr.ownsRow E.B1 31 2 pv k xs) (hg : wr.grownBy w' pv.ownBlock) : RMem E n w0 st sv cv w' := by
  refine ⟨h.tm.off hg (fun b e => ⟨(ho.lt b e).1, ?_⟩), (h.cm.grown hg (off_own ho (by decide)) (off_own ho (by decide))).bound (Nat.le_refl _)⟩
  intro e2
  rcases own_ne ho h.tm.own (by decide) with x | x
  · rw [x] at e; cases e
  · exact x (e.trans e2.symm)

/-- The path's last frame. -/
theorem CMem.top (h : CMem E n w0 st sv cv pv wr) {P : List Nat} {m : Nat} (hP : st.nodes = P ++ [m]) : ∃ g cap, pv = .slice (some ⟨g, 0, none⟩) (P.length + 1) cap ∧ P.length + 1 ≤ cap ∧ E.B1 ≤ g ∧ wr.cell? ⟨g, P.length * 2, none⟩ = some (.int .i64 (m : Int)) ∧ wr.cell? ⟨g, P.length * 2 + 1, none⟩ = some (.int .i64 (st.ec m : Int)) ∧ wr.frozen? ⟨g, P.length * 2 + 1, none⟩ = false := by
  have hp := h.pt
  rw [hP, List.length_append, List.length_singleton] at hp
  obtain ⟨g, cap, rfl, hc⟩ := own_val hp (by omega)
  refine ⟨g, cap, rfl, hc, (hp.lt g rfl).1, ?_, ?_, hp.frozenAt _⟩
  · rw [hp.cellAt _ (by omega), frames_node]
  · rw [hp.cellAt _ (by omega), frames_ec]

theorem CMem.bump {g cap k : Nat} (h : CMem E n w0 st sv cv (.slice (some ⟨g, 0, none⟩) k cap) wr) {P : List Nat} {m : Nat} (hP : st.nodes = P ++ [m]) (hm : m ∉ P) (hk : k = P.length + 1) {z : Int} (hz : z = ((st.ec m + 1 : Nat) : Int)) :
    CMem E n w0 (bumpS st m) sv cv (.slice (some ⟨g, 0, none⟩) k cap) (wr.setCell ⟨g, P.length * 2 + 1, none⟩ (.int .i64 z)) := by
  subst hk
  subst hz
  have hp := h.pt
  rw [hP, List.length_append, List.length_singleton] at hp
  obtain ⟨s1, s2⟩ := hp.stored (P.length * 2 + 1) (.int .i64 ((st.ec m + 1 : Nat) : Int))
  rw [frames_set hm] at s1
  have r := h.rm.path hp s2
  refine ⟨⟨r.tm, r.cm⟩, ?_⟩
  show (wr.setCell _ _).ownsRow E.B1 31 2 _ st.nodes.length (frames st.nodes (upd st.ec m (st.ec m + 1)))
  rw [hP, List.length_append, List.length_singleton]
  exact s1

theorem CMem.lower (h : CMem E n w0 st sv cv pv wr) (p k : Nat) {z : Int} (hz : z = ((min (st.low p) k : Nat) : Int)) : CMem E n w0 (lowerS st p k) sv cv pv (wr.setCell ⟨E.Lw, p, none⟩ (.int .i64 z)) := by
  subst hz
  obtain ⟨o1, o2, o3, o4, o5, o6, o7, o8, o9⟩ := h.rm.tm.ok
  have hg := grown_set wr ⟨E.Lw, p, none⟩ (.int .i64 ((min (st.low p) k : Nat) : Int))
  have hl : E.Lw < E.B1 := by omega
  exact ⟨⟨h.rm.tm.setL p (min (st.low p) k), (h.rm.cm.grown hg (off_low hl) (off_low hl)).bound (Nat.le_refl _)⟩, h.pt.kept hg (own_off h.pt (off_low hl))⟩

theorem RMem.visit (h : RMem E n w0 st sv cv wr) {x : Nat} {e : Ending} (hv : VisitOut E n w0 st.idx st.low st.stk st.stk st.next sv x wr e w') : ∃ sv', RMem E n w0 (visitS st x) sv' cv w' := by
  obtain ⟨sv', t1, t2⟩ := hv.mem
  exact ⟨sv', t1, (h.cm.visit h.tm.own hv.kept t2).bound (Nat.le_refl _)⟩

theorem root_start {x : Nat} (h : RMem E n w0 (visitS st x) sv cv wr) (hn : st.nodes = []) : CMem E n w0 (visitS st x) sv cv (.slice (some ⟨wr.heap.size, 0, none⟩) 1 1) (wr.alloc (.cells #[.int .i64 (x : Int), .int .i64 0] 31)) := by
  refine ⟨h.alloc _, ?_⟩
  have e1 : (visitS st x).nodes = [x] := by show st.nodes ++ [x] = [x]; rw [hn]; rfl
  have e2 : (visitS st x).ec x = 0 := upd_same _ _ _
  rw [e1]
  have e3 : frames [x] (visitS st x).ec = [.int .i64 (x : Int), .int .i64 0] := by
    show [Value.int .i64 (x : Int), Value.int .i64 ((visitS st x).ec x : Int)] = _
    rw [e2]; rfl
  rw [e3]
  exact ⟨rfl, .inr ⟨wr.heap.size, 1, #[.int .i64 (x : Int), .int .i64 0], rfl, h.tm.sz, heap_alloc_new wr _, Nat.le_refl _, by unfold maxLen; omega, rfl, rfl⟩⟩

theorem visit_push {x : Nat} {o : Obj} {v4 : Value} {w4 : World} (h : RMem E n w0 (visitS st x) sv cv wr) (hp : wr.ownsRow E.B1 31 2 pv st.nodes.length (frames st.nodes st.ec)) (hx : x ∉ st.nodes)
    (ho : w4.ownsRow E.B1 31 2 v4 (st.nodes.length + 1) (frames st.nodes st.ec ++ [.int .i64 (x : Int), .int .i64 0])) (hg : (wr.alloc o).grownBy w4 pv.ownBlock) : CMem E n w0 (visitS st x) sv cv v4 w4 := by
  refine ⟨(h.alloc o).path (hp.alloc o) hg, ?_⟩
  show w4.ownsRow E.B1 31 2 v4 (st.nodes ++ [x]).length (frames (st.nodes ++ [x]) (upd st.ec x 0))
  rw [frames_snoc, upd_same, List.length_append, List.length_singleton, frames_congr (e1 := upd st.ec x 0) (e2 := st.ec) (fun v hv => upd_other _ _ (fun e => hx (by rw [← e]; exact hv)))]
  exact ho

theorem CMem.pop {g cap k : Nat} (h : CMem E n w0 st sv cv (.slice (some ⟨g, 0, none⟩) k cap) wr) {P : List Nat} {m : Nat} (hP : st.nodes = P ++ [m]) (hk : k = P.length + 1) {j : Nat} (hj : j = P.length) : CMem E n w0 (popS st P) sv cv (.slice (some ⟨g, 0, none⟩) j cap) wr := by
  subst hk
  subst hj
  have hp := h.pt
  rw [hP, List.length_append, List.length_singleton] at hp
  have := own_cut (m := P.length) hp (by omega)
  rw [frames_snoc, List.take_append_of_le_length (by rw [frames_length]; exact Nat.le_refl _), List.take_of_length_le (by rw [frames_length]; exact Nat.le_refl _)] at this
  exact ⟨⟨h.rm.tm, h.rm.cm⟩, this⟩
end

/-! ### the part of the stack that is taken off -/
theorem seenL_clear {n : Nat} {q : List Nat} {t : Nat} (ht : t ∉ q) : (seenL n (q ++ [t])).set t (.bool false) = seenL n q := by
  apply List.ext_getElem?
  intro i
  rw [List.getElem?_set]
  by_cases h : i < n
  · rw [seenL_get h, seenL_get h, seenL_length]
    by_cases e : t = i
    · subst e; simp [h, ht]
    · rw [if_neg e]
      have : decide (i ∈ q ++ [t]) = decide (i ∈ q) := by
        apply decide_eq_decide.2
        simp
        intro e2; exact (e e2.symm).elim
      rw [this]
  · rw [List.getElem?_eq_none (by rw [seenL_length]; omega), List.getElem?_eq_none (by rw [seenL_length]; omega), seenL_length]
    by_cases e : t = i
    · subst e; rw [if_pos rfl, if_neg h]
    · rw [if_neg e]

structure PMem (E : Env) (n : Nat) (w0 : World) (st : St) (Bc : Nat) (cv pv : Value) (S C : List Nat) (sv xv : Value) (wr : World) : Prop where
  tm : TMem E n w0 st.idx st.low S S st.next sv wr
  cm : CompsIn E.B1 Bc sv cv st.comps wr
  pt : wr.ownsRow E.B1 31 2 pv st.nodes.length (frames st.nodes st.ec)
  xm : wr.ownsRow Bc 3 1 xv C.length (ints C)
  sb : ∀ b, sv.ownBlock = some b → b < Bc
  b1 : E.B1 ≤ Bc
  b2 : Bc ≤ wr.heap.size

section
variable {E : Env} {n : Nat} {w0 : World} {st : St} {sv cv pv xv : Value} {wr w' : World} {Bc : Nat} {S C : List Nat}

theorem CMem.start (h : CMem E n w0 st sv cv pv wr) : PMem E n w0 st wr.heap.size cv pv st.stk [] sv (.slice none 0 0) wr :=
  ⟨h.rm.tm, h.rm.cm, h.pt, World.ownsRow_nil _ _ _ _, fun b hb => (h.rm.tm.own.lt b hb).2, h.rm.tm.sz, Nat.le_refl _⟩

theorem PMem.xgrown (h : PMem E n w0 st Bc cv pv S C sv xv wr) (hg : wr.grownBy w' xv.ownBlock) {xv' : Value} {C' : List Nat} (ho : w'.ownsRow Bc 3 1 xv' C'.length (ints C')) : PMem E n w0 st Bc cv pv S C' sv xv' w' := by
  have hB : ∀ b, xv.ownBlock = some b → Bc ≤ b := fun b hb => (h.xm.lt b hb).1
  have h1 := h.b1
  have h2 := h.b2
  have h3 := hg.size
  refine ⟨h.tm.off hg (fun b e => ⟨by have := hB b e; omega, fun e2 => by have := hB b e; have := h.sb b e2; omega⟩), h.cm.high hg (off_own h.xm (by decide)) hB, h.pt.kept hg (own_ne h.pt h.xm (by decide)), ho, h.sb, h.b1, by omega⟩

theorem PMem.alloc (h : PMem E n w0 st Bc cv pv S C sv xv wr) (o : Obj) : PMem E n w0 st Bc cv pv S C sv xv (wr.alloc o) := by
  have hg := World.grownBy_alloc wr o none
  have h2 := h.b2
  refine ⟨h.tm.alloc o, h.cm.grown hg (off_none _ _ _) (off_none _ _ _), h.pt.alloc o, h.xm.alloc o, h.sb, h.b1, by simp; omega⟩

/-- The stack's last number. -/
theorem PMem.last (h : PMem E n w0 st Bc cv pv S C sv xv wr) {T : List Nat} {x : Nat} (hS : S = T ++ [x]) : ∃ g cap, sv = .slice (some ⟨g, 0, none⟩) (T.length + 1) cap ∧ T.length + 1 ≤ cap ∧ wr.cell? ⟨g, T.length, none⟩ = some (.int .i64 (x : Int)) := by
  have hp := h.tm.own
  rw [hS, List.length_append, List.length_singleton] at hp
  obtain ⟨g, cap, e, hc⟩ := own_val hp (by omega)
  refine ⟨g, cap, e, hc, ?_⟩
  rw [e] at hp
  rw [hp.cellAt _ (by omega)]
  simp [ints]

theorem PMem.take {g cap k : Nat} (h : PMem E n w0 st Bc cv pv S C (.slice (some ⟨g, 0, none⟩) k cap) xv wr) {T : List Nat} {x : Nat} (hS : S = T ++ [x]) (hx : x ∉ T) (hk : k = T.length + 1) {j : Nat} (hj : j = T.length) :
    PMem E n w0 st Bc cv pv T C (.slice (some ⟨g, 0, none⟩) j cap) xv ((wr.setCell ⟨E.bS, 0, none⟩ (.slice (some ⟨g, 0, none⟩) j cap)).setCell ⟨E.O, x, none⟩ (.bool false)) := by
  subst hk
  subst hj
  obtain ⟨o1, o2, o3, o4, o5, o6, o7, o8, o9⟩ := h.tm.ok
  have hp := h.tm.own
  rw [hS, List.length_append, List.length_singleton] at hp
  have hc := own_cut (m := T.length) hp (by omega)
  have e1 : (ints (T ++ [x])).take (T.length * 1) = ints T := by
    have : ints (T ++ [x]) = ints T ++ [.int .i64 (x : Int)] := by simp [ints]
    rw [this, Nat.mul_one, List.take_append_of_le_length (by simp [ints]), List.take_of_length_le (by simp [ints])]
  rw [e1] at hc
  have t1 := h.tm.setS hc
  have t2 := t1.setO x false (on' := T) (by rw [hS]; exact seenL_clear hx)
  have g1 := grown_set wr ⟨E.bS, 0, none⟩ (.slice (some ⟨g, 0, none⟩) T.length cap)
  have g2 := grown_set (wr.setCell ⟨E.bS, 0, none⟩ (.slice (some ⟨g, 0, none⟩) T.length cap)) ⟨E.O, x, none⟩ (.bool false)
  have l1 : E.bS < E.B1 := by omega
  have l2 : E.O < E.B1 := by omega
  have hb1 := h.b1
  refine ⟨t2, ?_, ?_, ?_, h.sb, h.b1, by rw [size_setCell, size_setCell]; exact h.b2⟩
  · exact (((h.cm.grown g1 (off_low l1) (off_low l1)).grown g2 (off_low l2) (off_low l2))).sv rfl
  · exact ownsRow_setCell_below (ownsRow_setCell_below h.pt l1 _) l2 _
  · exact ownsRow_setCell_below (ownsRow_setCell_below h.xm (by show E.bS < Bc; omega) _) (by show E.O < Bc; omega) _

theorem PMem.close {o : Obj} {v4 : Value} {w4 : World} {P : List Nat} (h : PMem E n w0 st Bc cv pv S C sv xv wr) (hP : st.nodes = P) (hv : ∃ rvs, wr.ownsRow E.B1 26 1 cv st.comps.length rvs ∧ RowsAt wr E.B1 rvs st.comps ∧ (∀ rv ∈ rvs, rv.ownBlock = none ∨ rv.ownBlock ≠ sv.ownBlock) ∧ w4.ownsRow E.B1 26 1 v4 (st.comps.length + 1) (rvs ++ [xv]))
    (hg : (wr.alloc o).grownBy w4 cv.ownBlock) : CMem E n w0 (closeS st P S C) sv v4 pv w4 := by
  obtain ⟨rvs, r1, r2, r3, ho⟩ := hv
  have ha := h.alloc o
  have q1 := r1.alloc o
  have b1 := h.b1
  have b2 := h.b2
  have x1 : (wr.alloc o).ownsRow E.B1 3 1 xv C.length (ints C) := own_base ha.xm h.b1
  refine ⟨⟨ha.tm.off hg (fun b e => ⟨(q1.lt b e).1, fun e2 => ?_⟩), rvs ++ [xv], ?_, ?_, ?_, ?_⟩, ?_⟩
  · rcases own_ne q1 ha.tm.own (by decide) with y | y
    · rw [y] at e; cases e
    · exact y (e.trans e2.symm)
  · show w4.ownsRow E.B1 26 1 v4 (st.comps ++ [C]).length (rvs ++ [xv])
    rw [List.length_append, List.length_singleton]; exact ho
  · refine RowsAt.snoc ((r2.alloc o).kept hg (fun rv hr => ?_)) (x1.kept hg (own_ne x1 q1 (by decide)))
    obtain ⟨c', _, hr2⟩ := (r2.alloc o).mem hr
    exact own_ne hr2 q1 (by decide)
  · intro rv hr
    rcases List.mem_append.1 hr with y | y
    · exact r3 rv y
    · rw [List.mem_singleton] at y; subst y
      cases hx : rv.ownBlock with
      | none => exact .inl rfl
      | some b =>
        right
        intro e
        have := h.sb b e.symm
        have := (h.xm.lt b hx).1
        omega
  · intro rv hr b hb
    have hs := hg.size
    simp at hs
    rcases List.mem_append.1 hr with y | y
    · have := r2.lt rv y b hb; omega
    · rw [List.mem_singleton] at y; subst y
      have := (h.xm.lt b hb).2; omega
  · show w4.ownsRow E.B1 31 2 pv P.length (frames P st.ec)
    rw [← hP]
    exact ha.pt.kept hg (own_ne ha.pt q1 (by decide))
end
end Go.Proofs.Qxb6603343a
