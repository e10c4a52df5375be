/-
  PLAIN: the steps of the walk with a stack, put together: each with its measure. No Go in sight.
-/
import Derived.Test.Qxb6603343aG4
namespace Go.Proofs.Qxb6603343a
set_option linter.unusedVariables false

/-! ### sums -/
def Wt (n : Nat) (wt : Nat → Nat) (idx : Nat → Nat) : Nat := ((List.range n).map (fun v => if idx v = 0 then wt v else 0)).sum

theorem sum_at {l : List Nat} {f g : Nat → Nat} {x : Nat} (hn : l.Nodup) (hx : x ∈ l) (ho : ∀ v ∈ l, v ≠ x → f v = g v) : (l.map f).sum + g x = (l.map g).sum + f x := by
  induction l with
  | nil => cases hx
  | cons a l ih =>
    rw [List.nodup_cons] at hn
    simp only [List.map_cons, List.sum_cons]
    by_cases e : a = x
    · subst e
      have : l.map f = l.map g := List.map_congr_left (fun v hv => ho v (List.mem_cons_of_mem _ hv) (fun e => hn.1 (by rw [← e]; exact hv)))
      rw [this]; omega
    · have hx2 : x ∈ l := (List.mem_cons.1 hx).resolve_left (fun e2 => e e2.symm)
      have h1 := ih hn.2 hx2 (fun v hv => ho v (List.mem_cons_of_mem _ hv))
      have h2 := ho a (List.mem_cons_self ..) e
      omega

theorem Wt_visit {n : Nat} (wt : Nat → Nat) {idx : Nat → Nat} {x k : Nat} (hx : x < n) (h0 : idx x = 0) (hk : k ≠ 0) : Wt n wt (upd idx x k) + wt x = Wt n wt idx := by
  have := sum_at (l := List.range n) (f := fun v => if upd idx x k v = 0 then wt v else 0) (g := fun v => if idx v = 0 then wt v else 0) (x := x) List.nodup_range (List.mem_range.2 hx) (fun v _ hv => by rw [upd_other _ _ hv])
  rw [upd_same, if_neg hk] at this
  simp only [h0, if_true] at this
  unfold Wt
  omega

def meas (G : List (List Nat)) (st : St) : Nat := Wt G.length (fun v => (adj G v).length + 2) st.idx + (st.nodes.map (fun p => (adj G p).length - st.ec p + 1)).sum

/-- How many numbers may still be drawn. -/
def Room (G : List (List Nat)) (st : St) : Prop := st.next + Wt G.length (fun _ => 1) st.idx ≤ G.length + 1

theorem Wt_zero (n : Nat) (idx : Nat → Nat) (h : ∀ v, idx v = 0) : Wt n (fun _ => 1) idx = n := by
  unfold Wt
  have : (List.range n).map (fun v => if idx v = 0 then 1 else 0) = (List.range n).map (fun _ => 1) := List.map_congr_left (fun v _ => by rw [if_pos (h v)])
  rw [this]
  induction n with
  | zero => rfl
  | succ n ih =>
    rw [List.range_succ, List.map_append, List.sum_append]
    simp only [List.map_cons, List.map_nil, List.sum_cons, List.sum_nil]
    rw [ih (List.map_congr_left (fun v _ => by rw [if_pos (h v)]))]
    omega

theorem room0 (G : List (List Nat)) : Room G st0 := by
  unfold Room
  rw [Wt_zero _ st0.idx (fun v => rfl)]
  show 1 + G.length ≤ G.length + 1
  omega

theorem Room.le {G : List (List Nat)} {st : St} (h : Room G st) : st.next ≤ G.length + 1 := by unfold Room at h; omega
theorem Room.visit {G : List (List Nat)} {st : St} (h : Room G st) {x : Nat} (hx : x < G.length) (h0 : st.idx x = 0) (hn : 1 ≤ st.next) : Room G (visitS st x) := by
  unfold Room at h ⊢
  have := Wt_visit (n := G.length) (fun _ => 1) (idx := st.idx) (k := st.next) hx h0 (by omega)
  show st.next + 1 + Wt G.length (fun _ => 1) (upd st.idx x st.next) ≤ _
  have e : (fun _ : Nat => 1) x = 1 := rfl
  omega

/-! ### bounds -/
theorem ord_nodup {st : St} {l : List Nat} (h : l.Pairwise (fun a b => st.idx a < st.idx b)) : l.Nodup := pairwise_turn (fun a b _ _ hab e => by rw [e] at hab; omega) h

theorem TInv.stkLen {G : List (List Nat)} {st : St} (h : TInv G st) : st.stk.length ≤ G.length := nodup_le (ord_nodup h.stkOrd) (fun x hx => (h.vis x (h.stkVis x hx)).1)
theorem TInv.ndNodup {G : List (List Nat)} {st : St} (h : TInv G st) : st.nodes.Nodup := pairwise_turn (fun a b _ _ hab e => by rw [e] at hab; omega) h.ndOrd
theorem TInv.ndLen {G : List (List Nat)} {st : St} (h : TInv G st) : st.nodes.length ≤ G.length := nodup_le h.ndNodup (fun x hx => (h.vis x (h.stkVis x (h.ndStk x hx))).1)
theorem TInv.compsLen {G : List (List Nat)} {st : St} (h : TInv G st) : st.comps.length ≤ G.length := by
  have h1 : (st.comps.map (fun c => c.headD 0)).Nodup := by
    unfold List.Nodup
    rw [List.pairwise_map]
    refine pairwise_turn ?_ h.dis
    intro a b ha hb hab e
    have ea := head_mem (h.cls a ha).ne_nil
    have eb := head_mem (h.cls b hb).ne_nil
    exact hab _ ea (by rw [e]; exact eb)
  have h2 := nodup_le (n := G.length) h1 (fun x hx => by
    obtain ⟨c, hc, rfl⟩ := List.mem_map.1 hx
    have ea := head_mem (h.cls c hc).ne_nil
    obtain ⟨_, i, hi, hm⟩ := h.cls c hc
    exact ((hm _).1 ea).1)
  simpa using h2

/-! ### the steps -/
theorem visit_bump {st : St} {m t : Nat} (h : t ≠ m) : visitS (bumpS st m) t = bumpS (visitS st t) m := by
  unfold visitS bumpS
  simp only [St.mk.injEq, and_true, true_and]
  funext y
  unfold upd
  by_cases e1 : y = t
  · subst e1
    rw [if_pos rfl, if_neg h, if_pos rfl]
  · rw [if_neg e1]
    by_cases e2 : y = m
    · subst e2
      rw [if_pos rfl, if_pos rfl, if_neg (fun e => h e.symm)]
    · rw [if_neg e2, if_neg e2, if_neg e1]

theorem sum_bump {G : List (List Nat)} {st : St} {P : List Nat} {m : Nat} (hnd : st.nodes.Nodup) (hm : m ∈ st.nodes) (hlt : st.ec m < (adj G m).length) :
    (st.nodes.map (fun p => (adj G p).length - (bumpS st m).ec p + 1)).sum + 1 = (st.nodes.map (fun p => (adj G p).length - st.ec p + 1)).sum := by
  have := sum_at (l := st.nodes) (f := fun p => (adj G p).length - (bumpS st m).ec p + 1) (g := fun p => (adj G p).length - st.ec p + 1) (x := m) hnd hm (fun v _ hv => by
    show _ - upd st.ec m (st.ec m + 1) v + 1 = _
    rw [upd_other _ _ hv])
  have e : (bumpS st m).ec m = st.ec m + 1 := upd_same _ _ _
  simp only [e] at this
  omega

theorem step_new {G : List (List Nat)} (hR : InRange G) {st : St} (h : TInv G st) {P : List Nat} {m t : Nat} (hP : st.nodes = P ++ [m]) (hlt : st.ec m < (adj G m).length) (ht : (adj G m)[st.ec m]? = some t) (h0 : st.idx t = 0) :
    TInv G (visitS (bumpS st m) t) ∧ meas G (visitS (bumpS st m) t) < meas G st ∧ t < G.length := by
  have hmn : m ∈ st.nodes := by rw [hP]; simp
  have hms := h.ndStk m hmn
  have hmv := h.stkVis m hms
  have htm : t ≠ m := fun e => hmv (by rw [← e]; exact h0)
  have hta : t ∈ adj G m := List.mem_of_getElem? ht
  have htl : t < G.length := hR m t hta
  have hnx := h.nx
  have hv : TInv G (visitS st t) := by
    refine visit_inv h htl h0 (fun p hp => ?_)
    have ho := h.ndOrd
    rw [hP, List.pairwise_append] at ho
    have e1 : Reach G m t := Reach.edge hta
    rw [hP] at hp
    rcases List.mem_append.1 hp with a | a
    · exact (ho.2.2 p a m (List.mem_singleton.2 rfl)).2.trans e1
    · rw [List.mem_singleton] at a; rw [a]; exact e1
  have em : (visitS st t).ec m = st.ec m := upd_other _ _ (fun e => htm e.symm)
  have lm : (visitS st t).low m = st.low m := upd_other _ _ (fun e => htm e.symm)
  have it : (visitS st t).idx t = st.next := upd_same _ _ _
  refine ⟨?_, ?_, htl⟩
  · rw [visit_bump htm]
    refine bump_inv hv (m := m) (t := t) (by show m ∈ st.nodes ++ [t]; exact List.mem_append_left _ hmn) (by rw [em]; exact hlt) (by rw [em]; exact ht) (by rw [it]; omega) (fun _ => ?_)
    rw [lm, it]
    have := (h.lowS m hms).1
    have := (h.vis m hmv).2
    omega
  · unfold meas
    have hw := Wt_visit (n := G.length) (fun v => (adj G v).length + 2) (idx := st.idx) (k := st.next) htl h0 (by omega)
    have hs := sum_bump (G := G) (P := P) h.ndNodup hmn hlt
    show Wt G.length _ (upd st.idx t st.next) + ((st.nodes ++ [t]).map (fun p => (adj G p).length - (visitS (bumpS st m) t).ec p + 1)).sum < _
    have e1 : (visitS (bumpS st m) t).ec t = 0 := upd_same _ _ _
    have htn : t ∉ st.nodes := fun e => h.stkVis t (h.ndStk t e) h0
    have e2 : st.nodes.map (fun p => (adj G p).length - (visitS (bumpS st m) t).ec p + 1) = st.nodes.map (fun p => (adj G p).length - (bumpS st m).ec p + 1) := List.map_congr_left (fun p hp => by
      have : (visitS (bumpS st m) t).ec p = (bumpS st m).ec p := upd_other _ _ (fun e => htn (by rw [← e]; exact hp))
      rw [this])
    rw [List.map_append, List.sum_append, e2]
    simp only [List.map_cons, List.map_nil, List.sum_cons, List.sum_nil, e1]
    omega

theorem step_on {G : List (List Nat)} {st : St} (h : TInv G st) {P : List Nat} {m t : Nat} (hP : st.nodes = P ++ [m]) (hlt : st.ec m < (adj G m).length) (ht : (adj G m)[st.ec m]? = some t) (hs : t ∈ st.stk) :
    TInv G (lowerS (bumpS st m) m (st.idx t)) ∧ meas G (lowerS (bumpS st m) m (st.idx t)) < meas G st := by
  have hmn : m ∈ st.nodes := by rw [hP]; simp
  have hta : t ∈ adj G m := List.mem_of_getElem? ht
  have hl : TInv G (lowerS st m (st.idx t)) := lower_inv h hmn ⟨t, hs, rfl, Reach.edge hta⟩
  refine ⟨?_, ?_⟩
  · refine bump_inv hl (m := m) (t := t) hmn hlt ht (h.stkVis t hs) (fun _ => ?_)
    show upd st.low m (min (st.low m) (st.idx t)) m ≤ st.idx t
    rw [upd_same]; exact Nat.min_le_right _ _
  · unfold meas
    have hs := sum_bump (G := G) (P := P) h.ndNodup hmn hlt
    show Wt G.length _ st.idx + (st.nodes.map (fun p => (adj G p).length - (bumpS st m).ec p + 1)).sum < _
    omega

theorem step_off {G : List (List Nat)} {st : St} (h : TInv G st) {P : List Nat} {m t : Nat} (hP : st.nodes = P ++ [m]) (hlt : st.ec m < (adj G m).length) (ht : (adj G m)[st.ec m]? = some t) (h0 : st.idx t ≠ 0) (hs : t ∉ st.stk) :
    TInv G (bumpS st m) ∧ meas G (bumpS st m) < meas G st := by
  have hmn : m ∈ st.nodes := by rw [hP]; simp
  refine ⟨bump_inv h hmn hlt ht h0 (fun a => (hs a).elim), ?_⟩
  unfold meas
  have hs := sum_bump (G := G) (P := P) h.ndNodup hmn hlt
  show Wt G.length _ st.idx + (st.nodes.map (fun p => (adj G p).length - (bumpS st m).ec p + 1)).sum < _
  omega

/-- The parent's low is lowered, where there is one. -/
def lowPar (st : St) (P : List Nat) (m : Nat) : St := match P.getLast? with
  | none => st
  | some p => lowerS st p (st.low m)

theorem lowPar_nil (st : St) (m : Nat) : lowPar st [] m = st := rfl
theorem lowPar_snoc (st : St) (P : List Nat) (p m : Nat) : lowPar st (P ++ [p]) m = lowerS st p (st.low m) := by unfold lowPar; simp

theorem lowPar_facts (st : St) (P : List Nat) (m : Nat) : (lowPar st P m).idx = st.idx ∧ (lowPar st P m).ec = st.ec ∧ (lowPar st P m).stk = st.stk ∧ (lowPar st P m).nodes = st.nodes ∧ (lowPar st P m).comps = st.comps ∧ (lowPar st P m).next = st.next := by
  rcases List.eq_nil_or_concat P with e | ⟨P', p, e⟩
  · subst e; exact ⟨rfl, rfl, rfl, rfl, rfl, rfl⟩
  · rw [List.concat_eq_append] at e; subst e
    rw [lowPar_snoc]; exact ⟨rfl, rfl, rfl, rfl, rfl, rfl⟩

theorem lowPar_inv {G : List (List Nat)} {st : St} (h : TInv G st) {P : List Nat} {m : Nat} (hP : st.nodes = P ++ [m]) :
    TInv G (lowPar st P m) ∧ (lowPar st P m).low m = st.low m ∧ ∀ P' p, P = P' ++ [p] → (lowPar st P m).low p ≤ (lowPar st P m).low m := by
  have hmn : m ∈ st.nodes := by rw [hP]; simp
  rcases List.eq_nil_or_concat P with e | ⟨P', p, e⟩
  · subst e
    exact ⟨h, rfl, fun P' p e => by have := congrArg List.length e; simp at this⟩
  · rw [List.concat_eq_append] at e; subst e
    have ho := h.ndOrd
    rw [hP, List.pairwise_append] at ho
    obtain ⟨o1, o2⟩ := ho.2.2 p (by simp) m (List.mem_singleton.2 rfl)
    have hpm : m ≠ p := fun e => by rw [e] at o1; omega
    obtain ⟨_, u, hu, l2, l3⟩ := h.lowS m (h.ndStk m hmn)
    rw [lowPar_snoc]
    have em : (lowerS st p (st.low m)).low m = st.low m := upd_other _ _ hpm
    refine ⟨lower_inv h (by rw [hP]; simp) ⟨u, hu, l2, o2.trans l3⟩, em, fun P'' p' e => ?_⟩
    have e2 : p = p' := by
      have := congrArg List.getLast? e
      simpa using this
    subst e2
    rw [em]
    show upd st.low p (min (st.low p) (st.low m)) p ≤ _
    rw [upd_same]; exact Nat.min_le_right _ _

theorem meas_pop {G : List (List Nat)} {st st2 : St} {P : List Nat} {m : Nat} (hP : st.nodes = P ++ [m]) (h1 : st2.idx = st.idx) (h2 : st2.ec = st.ec) (h3 : st2.nodes = P) : meas G st2 < meas G st := by
  unfold meas
  rw [h1, h2, h3, hP, List.map_append, List.sum_append]
  simp only [List.map_cons, List.map_nil, List.sum_cons, List.sum_nil]
  omega

theorem step_stay {G : List (List Nat)} {st : St} (h : TInv G st) {P : List Nat} {m : Nat} (hP : st.nodes = P ++ [m]) (hec : st.ec m = (adj G m).length) (hne : st.low m ≠ st.idx m) :
    TInv G (popS (lowPar st P m) P) ∧ meas G (popS (lowPar st P m) P) < meas G st := by
  obtain ⟨f1, f2, f3, f4, f5, f6⟩ := lowPar_facts st P m
  obtain ⟨i1, i2, i3⟩ := lowPar_inv h hP
  exact ⟨pop_stay i1 (by rw [f4]; exact hP) (by rw [f2]; exact hec) (by rw [i2, f1]; exact hne) i3, meas_pop hP f1 f2 rfl⟩

/-- The last node's part of the stack. -/
theorem split_at {G : List (List Nat)} {st : St} (h : TInv G st) {P : List Nat} {m : Nat} (hP : st.nodes = P ++ [m]) : ∃ S1 S2, st.stk = S1 ++ m :: S2 := by
  have hmn : m ∈ st.nodes := by rw [hP]; simp
  obtain ⟨a, b, e⟩ := List.append_of_mem (h.ndStk m hmn)
  exact ⟨a, b, e⟩

theorem step_close {G : List (List Nat)} {st : St} (h : TInv G st) {P S1 S2 c : List Nat} {m : Nat} (hP : st.nodes = P ++ [m]) (hS : st.stk = S1 ++ m :: S2) (hec : st.ec m = (adj G m).length) (heq : st.low m = st.idx m)
    (hp : c.Perm (S2.reverse ++ [m])) (hc : c.Pairwise (· ≤ ·)) : TInv G (closeS (lowPar st P m) P S1 c) ∧ meas G (closeS (lowPar st P m) P S1 c) < meas G st := by
  obtain ⟨f1, f2, f3, f4, f5, f6⟩ := lowPar_facts st P m
  obtain ⟨i1, i2, i3⟩ := lowPar_inv h hP
  have hnd : (S2.reverse ++ [m]).Nodup := by
    have := ord_nodup h.stkOrd
    rw [hS, List.nodup_append] at this
    have h2 := this.2.1
    have e : (S2.reverse ++ [m]) = (m :: S2).reverse := by simp
    rw [e]
    exact (List.reverse_perm (m :: S2)).nodup_iff.2 h2
  have hcn : c.Nodup := hp.nodup_iff.2 hnd
  refine ⟨pop_close i1 (by rw [f4]; exact hP) (by rw [f3]; exact hS) (by rw [f2]; exact hec) (by rw [i2, f1]; exact heq) ?_ ?_, meas_pop hP f1 f2 rfl⟩
  · exact pairwise_turn (fun a b _ _ hab => by omega) (List.Pairwise.and hc hcn)
  · intro x
    rw [hp.mem_iff]
    simp
    exact or_comm
end Go.Proofs.Qxb6603343a
