/-
  PLAIN: the walk with a stack of its own (Tarjan's), as steps on a plain state, and the invariant that each step keeps. No Go in sight.
-/
import Derived.Test.Qxb6603343aG1
namespace Go.Proofs.Qxb6603343a
set_option linter.unusedVariables false

structure St where
  idx : Nat → Nat
  low : Nat → Nat
  ec : Nat → Nat
  stk : List Nat
  nodes : List Nat
  comps : List (List Nat)
  next : Nat

def upd (f : Nat → Nat) (x v : Nat) : Nat → Nat := fun y => if y = x then v else f y
theorem upd_same (f : Nat → Nat) (x v : Nat) : upd f x v x = v := if_pos rfl
theorem upd_other (f : Nat → Nat) {x y : Nat} (v : Nat) (h : y ≠ x) : upd f x v y = f y := if_neg h

def Own (G : List (List Nat)) (st : St) (p v : Nat) : Prop := st.idx p ≤ st.idx v ∧ Reach G p v ∧ st.low p ≤ st.low v ∧ ∀ p' ∈ st.nodes, st.idx p' ≤ st.idx v → st.idx p' ≤ st.idx p

structure TInv (G : List (List Nat)) (st : St) : Prop where
  vis : ∀ v, st.idx v ≠ 0 → v < G.length ∧ st.idx v < st.next
  inj : ∀ u v, st.idx u ≠ 0 → st.idx u = st.idx v → u = v
  nx : 1 ≤ st.next
  stkVis : ∀ v ∈ st.stk, st.idx v ≠ 0
  stkOrd : st.stk.Pairwise (fun a b => st.idx a < st.idx b)
  ndStk : ∀ p ∈ st.nodes, p ∈ st.stk
  ndOrd : st.nodes.Pairwise (fun a b => st.idx a < st.idx b ∧ Reach G a b)
  ecLe : ∀ v, st.ec v ≤ (adj G v).length
  own : ∀ v ∈ st.stk, ∃ p ∈ st.nodes, Own G st p v
  lowS : ∀ v ∈ st.stk, st.low v ≤ st.idx v ∧ ∃ u ∈ st.stk, st.idx u = st.low v ∧ Reach G v u
  fin : ∀ v ∈ st.stk, v ∉ st.nodes → st.low v < st.idx v
  full : ∀ v, st.idx v ≠ 0 → v ∉ st.nodes → st.ec v = (adj G v).length
  ex : ∀ v, st.idx v ≠ 0 → ∀ t ∈ (adj G v).take (st.ec v), st.idx t ≠ 0 ∧ (v ∈ st.stk → t ∈ st.stk → st.low v ≤ st.idx t)
  done : ∀ v, st.idx v ≠ 0 → v ∉ st.stk → ∀ t ∈ adj G v, st.idx t ≠ 0 ∧ t ∉ st.stk
  cls : ∀ c ∈ st.comps, IsClass G c
  cov : ∀ v, (∃ c ∈ st.comps, v ∈ c) ↔ (st.idx v ≠ 0 ∧ v ∉ st.stk)
  dis : st.comps.Pairwise (fun a b => ∀ x, x ∈ a → x ∉ b)

def st0 : St := { idx := fun _ => 0, low := fun _ => 0, ec := fun _ => 0, stk := [], nodes := [], comps := [], next := 1 }

theorem st0_inv (G : List (List Nat)) : TInv G st0 where
  vis := fun v h => (h rfl).elim
  inj := fun u v h => (h rfl).elim
  nx := Nat.le_refl _
  stkVis := fun v h => nomatch h
  stkOrd := List.Pairwise.nil
  ndStk := fun v h => nomatch h
  ndOrd := List.Pairwise.nil
  ecLe := fun v => Nat.zero_le _
  own := fun v h => nomatch h
  lowS := fun v h => nomatch h
  fin := fun v h => nomatch h
  full := fun v h => (h rfl).elim
  ex := fun v h => (h rfl).elim
  done := fun v h => (h rfl).elim
  cls := fun v h => nomatch h
  cov := fun v => ⟨fun ⟨c, h, _⟩ => (nomatch h), fun h => (h.1 rfl).elim⟩
  dis := List.Pairwise.nil

/-! ### a node is visited -/
def visitS (st : St) (x : Nat) : St :=
  { st with idx := upd st.idx x st.next, low := upd st.low x st.next, ec := upd st.ec x 0, stk := st.stk ++ [x], nodes := st.nodes ++ [x], next := st.next + 1 }

theorem visit_inv {G : List (List Nat)} {st : St} (h : TInv G st) {x : Nat} (hx : x < G.length) (h0 : st.idx x = 0) (hr : ∀ p ∈ st.nodes, Reach G p x) : TInv G (visitS st x) := by
  have hnx := h.nx
  have hne : ∀ v, st.idx v ≠ 0 → v ≠ x := fun v hv e => hv (by rw [e]; exact h0)
  have hxs : x ∉ st.stk := fun e => h.stkVis x e h0
  have hxn : x ∉ st.nodes := fun e => hxs (h.ndStk x e)
  have ix : (visitS st x).idx x = st.next := upd_same _ _ _
  have lx : (visitS st x).low x = st.next := upd_same _ _ _
  have io : ∀ v, v ≠ x → (visitS st x).idx v = st.idx v := fun v hv => upd_other _ _ hv
  have lo : ∀ v, v ≠ x → (visitS st x).low v = st.low v := fun v hv => upd_other _ _ hv
  have eo : ∀ v, v ≠ x → (visitS st x).ec v = st.ec v := fun v hv => upd_other _ _ hv
  have exx : (visitS st x).ec x = 0 := upd_same _ _ _
  have ms : ∀ v, v ∈ (visitS st x).stk ↔ v ∈ st.stk ∨ v = x := fun v => by show v ∈ st.stk ++ [x] ↔ _; simp
  have mn : ∀ v, v ∈ (visitS st x).nodes ↔ v ∈ st.nodes ∨ v = x := fun v => by show v ∈ st.nodes ++ [x] ↔ _; simp
  have vs : ∀ v, v ≠ x → (visitS st x).idx v ≠ 0 → st.idx v ≠ 0 := fun v hv hi => by rw [io v hv] at hi; exact hi
  have snx : ∀ v ∈ st.stk, v ≠ x := fun v hv => hne v (h.stkVis v hv)
  have nnx : ∀ v ∈ st.nodes, v ≠ x := fun v hv => snx v (h.ndStk v hv)
  refine ⟨?_, ?_, ?_, ?_, ?_, ?_, ?_, ?_, ?_, ?_, ?_, ?_, ?_, ?_, h.cls, ?_, h.dis⟩
  · intro v hv
    by_cases e : v = x
    · subst e; rw [ix]; exact ⟨hx, Nat.lt_succ_self _⟩
    · have := h.vis v (vs v e hv)
      rw [io v e]; exact ⟨this.1, Nat.lt_succ_of_lt this.2⟩
  · intro u v hu huv
    by_cases eu : u = x
    · by_cases ev : v = x
      · rw [eu, ev]
      · rw [eu, ix, io v ev] at huv
        have := (h.vis v (by omega)).2
        omega
    · by_cases ev : v = x
      · rw [ev, ix, io u eu] at huv
        have := (h.vis u (vs u eu hu)).2
        omega
      · rw [io u eu, io v ev] at huv
        exact h.inj u v (vs u eu hu) huv
  · show 1 ≤ st.next + 1; omega
  · intro v hv
    rcases (ms v).1 hv with hv | hv
    · rw [io v (snx v hv)]; exact h.stkVis v hv
    · subst hv; rw [ix]; omega
  · show (st.stk ++ [x]).Pairwise _
    rw [List.pairwise_append]
    refine ⟨?_, List.pairwise_singleton _ _, ?_⟩
    · refine pairwise_turn ?_ h.stkOrd
      intro a b ha hb hab
      rw [io a (snx a ha), io b (snx b hb)]; exact hab
    · intro a ha b hb
      rw [List.mem_singleton] at hb; subst hb
      rw [io a (snx a ha), ix]; exact (h.vis a (h.stkVis a ha)).2
  · intro p hp
    rcases (mn p).1 hp with hp | hp
    · exact (ms p).2 (.inl (h.ndStk p hp))
    · exact (ms p).2 (.inr hp)
  · show (st.nodes ++ [x]).Pairwise _
    rw [List.pairwise_append]
    refine ⟨?_, List.pairwise_singleton _ _, ?_⟩
    · refine pairwise_turn ?_ h.ndOrd
      intro a b ha hb hab
      rw [io a (nnx a ha), io b (nnx b hb)]; exact hab
    · intro a ha b hb
      rw [List.mem_singleton] at hb; subst hb
      rw [io a (nnx a ha), ix]; exact ⟨(h.vis a (h.stkVis a (h.ndStk a ha))).2, hr a ha⟩
  · intro v
    by_cases e : v = x
    · subst e; rw [exx]; exact Nat.zero_le _
    · rw [eo v e]; exact h.ecLe v
  · intro v hv
    rcases (ms v).1 hv with hv | hv
    · obtain ⟨p, hp, o1, o2, o3, o4⟩ := h.own v hv
      refine ⟨p, (mn p).2 (.inl hp), ?_, o2, ?_, ?_⟩
      · rw [io p (nnx p hp), io v (snx v hv)]; exact o1
      · rw [lo p (nnx p hp), lo v (snx v hv)]; exact o3
      · intro p' hp' hle
        rcases (mn p').1 hp' with hq | hq
        · rw [io p' (nnx p' hq), io v (snx v hv)] at hle
          rw [io p' (nnx p' hq), io p (nnx p hp)]; exact o4 p' hq hle
        · rw [hq, ix, io v (snx v hv)] at hle
          have := (h.vis v (h.stkVis v hv)).2
          omega
    · subst hv
      refine ⟨v, (mn v).2 (.inr rfl), Nat.le_refl _, Reach.refl _, Nat.le_refl _, ?_⟩
      intro p' hp' hle
      exact hle
  · intro v hv
    rcases (ms v).1 hv with hv | hv
    · obtain ⟨l1, u, hu, l2, l3⟩ := h.lowS v hv
      refine ⟨by rw [lo v (snx v hv), io v (snx v hv)]; exact l1, u, (ms u).2 (.inl hu), ?_, l3⟩
      rw [io u (snx u hu), lo v (snx v hv)]; exact l2
    · subst hv
      exact ⟨by rw [lx, ix]; exact Nat.le_refl _, v, (ms v).2 (.inr rfl), by rw [lx, ix], Reach.refl _⟩
  · intro v hv hn
    have hvx : v ≠ x := fun e => hn ((mn v).2 (.inr e))
    rcases (ms v).1 hv with hv | hv
    · rw [lo v hvx, io v hvx]; exact h.fin v hv (fun e => hn ((mn v).2 (.inl e)))
    · exact (hvx hv).elim
  · intro v hv hn
    have hvx : v ≠ x := fun e => hn ((mn v).2 (.inr e))
    rw [eo v hvx]; exact h.full v (vs v hvx hv) (fun e => hn ((mn v).2 (.inl e)))
  · intro v hv t ht
    by_cases e : v = x
    · subst e; rw [exx] at ht; simp at ht
    · rw [eo v e] at ht
      obtain ⟨t1, t2⟩ := h.ex v (vs v e hv) t ht
      have htx := hne t t1
      refine ⟨by rw [io t htx]; exact t1, fun a b => ?_⟩
      rw [lo v e, io t htx]
      rcases (ms v).1 a with a | a
      · rcases (ms t).1 b with b | b
        · exact t2 a b
        · exact (htx b).elim
      · exact (e a).elim
  · intro v hv hn t ht
    have e : v ≠ x := fun e => hn ((ms v).2 (.inr e))
    obtain ⟨t1, t2⟩ := h.done v (vs v e hv) (fun a => hn ((ms v).2 (.inl a))) t ht
    have htx := hne t t1
    refine ⟨by rw [io t htx]; exact t1, fun a => ?_⟩
    rcases (ms t).1 a with a | a
    · exact t2 a
    · exact htx a
  · intro v
    show (∃ c ∈ st.comps, v ∈ c) ↔ _
    rw [h.cov v]
    constructor
    · rintro ⟨a, b⟩
      have e := hne v a
      refine ⟨by rw [io v e]; exact a, fun c => ?_⟩
      rcases (ms v).1 c with c | c
      · exact b c
      · exact e c
    · rintro ⟨a, b⟩
      have e : v ≠ x := fun e => b ((ms v).2 (.inr e))
      exact ⟨vs v e a, fun c => b ((ms v).2 (.inl c))⟩

/-! ### an edge is passed -/
def bumpS (st : St) (m : Nat) : St := { st with ec := upd st.ec m (st.ec m + 1) }

theorem bump_inv {G : List (List Nat)} {st : St} (h : TInv G st) {m t : Nat} (hm : m ∈ st.nodes) (hlt : st.ec m < (adj G m).length) (ht : (adj G m)[st.ec m]? = some t) (h1 : st.idx t ≠ 0) (h2 : t ∈ st.stk → st.low m ≤ st.idx t) : TInv G (bumpS st m) := by
  have em : (bumpS st m).ec m = st.ec m + 1 := upd_same _ _ _
  have eo : ∀ v, v ≠ m → (bumpS st m).ec v = st.ec v := fun v hv => upd_other _ _ hv
  refine ⟨h.vis, h.inj, h.nx, h.stkVis, h.stkOrd, h.ndStk, h.ndOrd, ?_, h.own, h.lowS, h.fin, ?_, ?_, h.done, h.cls, h.cov, h.dis⟩
  · intro v
    by_cases e : v = m
    · subst e; rw [em]; omega
    · rw [eo v e]; exact h.ecLe v
  · intro v hv hn
    have e : v ≠ m := fun e => hn (by rw [e]; exact hm)
    rw [eo v e]; exact h.full v hv hn
  · intro v hv t' ht'
    by_cases e : v = m
    · subst e
      rw [em, List.take_add_one, ht] at ht'
      rcases List.mem_append.1 ht' with a | a
      · exact h.ex v hv t' a
      · simp at a; subst a
        exact ⟨h1, fun _ b => h2 b⟩
    · rw [eo v e] at ht'; exact h.ex v hv t' ht'

/-! ### a low is lowered -/
def lowerS (st : St) (p k : Nat) : St := { st with low := upd st.low p (min (st.low p) k) }

theorem lower_inv {G : List (List Nat)} {st : St} (h : TInv G st) {p k : Nat} (hp : p ∈ st.nodes) (hu : ∃ u ∈ st.stk, st.idx u = k ∧ Reach G p u) : TInv G (lowerS st p k) := by
  have lp : (lowerS st p k).low p = min (st.low p) k := upd_same _ _ _
  have lo : ∀ v, v ≠ p → (lowerS st p k).low v = st.low v := fun v hv => upd_other _ _ hv
  have ll : ∀ v, (lowerS st p k).low v ≤ st.low v := fun v => by
    by_cases e : v = p
    · subst e; rw [lp]; exact Nat.min_le_left _ _
    · rw [lo v e]; exact Nat.le_refl _
  refine ⟨h.vis, h.inj, h.nx, h.stkVis, h.stkOrd, h.ndStk, h.ndOrd, h.ecLe, ?_, ?_, ?_, h.full, ?_, h.done, h.cls, h.cov, h.dis⟩
  · intro v hv
    obtain ⟨q, hq, o1, o2, o3, o4⟩ := h.own v hv
    refine ⟨q, hq, o1, o2, ?_, o4⟩
    by_cases e : v = p
    · subst e
      have e2 : st.idx v = st.idx q := Nat.le_antisymm (o4 v hp (Nat.le_refl _)) o1
      have e3 : v = q := h.inj v q (h.stkVis v hv) e2
      subst e3; exact Nat.le_refl _
    · rw [lo v e]; exact Nat.le_trans (ll q) o3
  · intro v hv
    obtain ⟨l1, u, hu1, l2, l3⟩ := h.lowS v hv
    refine ⟨Nat.le_trans (ll v) l1, ?_⟩
    by_cases e : v = p
    · subst e
      rw [lp]
      by_cases hk : st.low v ≤ k
      · exact ⟨u, hu1, by show st.idx u = _; rw [Nat.min_eq_left hk]; exact l2, l3⟩
      · obtain ⟨u2, a, b, c⟩ := hu
        exact ⟨u2, a, by show st.idx u2 = _; rw [Nat.min_eq_right (by omega)]; exact b, c⟩
    · rw [lo v e]; exact ⟨u, hu1, l2, l3⟩
  · intro v hv hn
    exact Nat.lt_of_le_of_lt (ll v) (h.fin v hv hn)
  · intro v hv t ht
    obtain ⟨t1, t2⟩ := h.ex v hv t ht
    exact ⟨t1, fun a b => Nat.le_trans (ll v) (t2 a b)⟩

/-! ### the path's last node leaves -/
theorem last_max {G : List (List Nat)} {st : St} (h : TInv G st) {P : List Nat} {m : Nat} (hP : st.nodes = P ++ [m]) : ∀ p ∈ st.nodes, st.idx p ≤ st.idx m := by
  intro p hp
  have ho := h.ndOrd
  rw [hP] at ho hp
  rw [List.pairwise_append] at ho
  rcases List.mem_append.1 hp with a | a
  · exact Nat.le_of_lt (ho.2.2 p a m (List.mem_singleton.2 rfl)).1
  · rw [List.mem_singleton] at a; rw [a]; exact Nat.le_refl _

def popS (st : St) (P : List Nat) : St := { st with nodes := P }

theorem pop_stay {G : List (List Nat)} {st : St} (h : TInv G st) {P : List Nat} {m : Nat} (hP : st.nodes = P ++ [m]) (hec : st.ec m = (adj G m).length) (hne : st.low m ≠ st.idx m)
    (hpar : ∀ P' p, P = P' ++ [p] → st.low p ≤ st.low m) : TInv G (popS st P) := by
  have hmn : m ∈ st.nodes := by rw [hP]; simp
  have hms := h.ndStk m hmn
  have hsub : ∀ p, p ∈ P → p ∈ st.nodes := fun p hp => by rw [hP]; exact List.mem_append_left _ hp
  have hor : ∀ p, p ∈ st.nodes → p ∈ P ∨ p = m := fun p hp => by rw [hP] at hp; simpa using hp
  have hmax := last_max h hP
  have ho := h.ndOrd
  rw [hP, List.pairwise_append] at ho
  refine ⟨h.vis, h.inj, h.nx, h.stkVis, h.stkOrd, fun p hp => h.ndStk p (hsub p hp), ho.1, h.ecLe, ?_, h.lowS, ?_, ?_, h.ex, h.done, h.cls, h.cov, h.dis⟩
  · intro v hv
    obtain ⟨q, hq, o1, o2, o3, o4⟩ := h.own v hv
    rcases hor q hq with a | a
    · exact ⟨q, a, o1, o2, o3, fun p' hp' hle => o4 p' (hsub p' hp') hle⟩
    · subst a
      rcases List.eq_nil_or_concat P with hn | ⟨P', p, hp⟩
      · exfalso
        obtain ⟨l1, u, hu, l2, _⟩ := h.lowS q hms
        obtain ⟨r, hr, r1, _⟩ := h.own u hu
        rcases hor r hr with b | b
        · rw [hn] at b; cases b
        · subst b; omega
      · rw [List.concat_eq_append] at hp
        have hpP : p ∈ P := by rw [hp]; simp
        obtain ⟨i1, i2⟩ := ho.2.2 p hpP q (List.mem_singleton.2 rfl)
        refine ⟨p, hpP, ?_, i2.trans o2, Nat.le_trans (hpar P' p hp) o3, ?_⟩
        · show st.idx p ≤ st.idx v; omega
        · intro p' hp' _
          have ho1 := ho.1
          rw [hp, List.pairwise_append] at ho1
          have hp2 : p' ∈ P := hp'
          rw [hp] at hp2
          rcases List.mem_append.1 hp2 with b | b
          · exact Nat.le_of_lt (ho1.2.2 p' b p (List.mem_singleton.2 rfl)).1
          · rw [List.mem_singleton] at b; rw [b]; exact Nat.le_refl _
  · intro v hv hn
    by_cases e : v = m
    · subst e
      have := (h.lowS v hv).1
      show st.low v < st.idx v
      omega
    · exact h.fin v hv (fun a => (hor v a).elim hn e)
  · intro v hv hn
    by_cases e : v = m
    · subst e; exact hec
    · exact h.full v hv (fun a => (hor v a).elim hn e)

def closeS (st : St) (P S1 : List Nat) (c : List Nat) : St := { st with nodes := P, stk := S1, comps := st.comps ++ [c] }

theorem pop_close {G : List (List Nat)} {st : St} (h : TInv G st) {P S1 S2 c : List Nat} {m : Nat} (hP : st.nodes = P ++ [m]) (hS : st.stk = S1 ++ m :: S2) (hec : st.ec m = (adj G m).length) (heq : st.low m = st.idx m)
    (hcs : c.Pairwise (· < ·)) (hcm : ∀ x, x ∈ c ↔ x ∈ m :: S2) : TInv G (closeS st P S1 c) := by
  have hmn : m ∈ st.nodes := by rw [hP]; simp
  have hms := h.ndStk m hmn
  have hsub : ∀ p, p ∈ P → p ∈ st.nodes := fun p hp => by rw [hP]; exact List.mem_append_left _ hp
  have hor : ∀ p, p ∈ st.nodes → p ∈ P ∨ p = m := fun p hp => by rw [hP] at hp; simpa using hp
  have hmax := last_max h hP
  have ho := h.ndOrd
  rw [hP, List.pairwise_append] at ho
  have hso := h.stkOrd
  rw [hS, List.pairwise_append, List.pairwise_cons] at hso
  obtain ⟨hs1, ⟨hs2, hs3⟩, hs4⟩ := hso
  have inS : ∀ v, v ∈ st.stk ↔ v ∈ S1 ∨ v ∈ m :: S2 := fun v => by rw [hS]; exact List.mem_append
  have s1lt : ∀ v ∈ S1, st.idx v < st.idx m := fun v hv => hs4 v hv m (List.mem_cons_self ..)
  have cge : ∀ v ∈ m :: S2, st.idx m ≤ st.idx v := by
    intro v hv
    rcases List.mem_cons.1 hv with e | e
    · rw [e]; exact Nat.le_refl _
    · exact Nat.le_of_lt (hs2 v e)
  have cstk : ∀ v ∈ m :: S2, v ∈ st.stk := fun v hv => (inS v).2 (.inr hv)
  have cown : ∀ v ∈ m :: S2, Reach G m v ∧ st.low m ≤ st.low v := by
    intro v hv
    obtain ⟨q, hq, o1, o2, o3, o4⟩ := h.own v (cstk v hv)
    have e1 := o4 m hmn (cge v hv)
    have e2 := hmax q hq
    have e3 : m = q := h.inj m q (h.stkVis m hms) (Nat.le_antisymm e1 e2)
    subst e3
    exact ⟨o2, o3⟩
  have back : ∀ k v, v ∈ m :: S2 → st.idx v ≤ k → Reach G v m := by
    intro k
    induction k with
    | zero => intro v hv hk; exact (h.stkVis v (cstk v hv) (by omega)).elim
    | succ k ih =>
      intro v hv hk
      rcases List.mem_cons.1 hv with e | e
      · rw [e]; exact Reach.refl _
      · have hvn : v ∉ st.nodes := fun a => by have := hmax v a; have := hs2 v e; omega
        have hl := h.fin v (cstk v hv) hvn
        obtain ⟨_, u, hu, l2, l3⟩ := h.lowS v (cstk v hv)
        have hml := (cown v hv).2
        have huC : u ∈ m :: S2 := by
          rcases (inS u).1 hu with a | a
          · have := s1lt u a; omega
          · exact a
        exact l3.trans (ih u huC (by omega))
  have cdone : ∀ v ∈ m :: S2, ∀ t ∈ adj G v, st.idx t ≠ 0 ∧ t ∉ S1 := by
    intro v hv t ht
    have hfull : st.ec v = (adj G v).length := by
      rcases List.mem_cons.1 hv with e | e
      · rw [e]; exact hec
      · refine h.full v (h.stkVis v (cstk v hv)) (fun a => ?_)
        have := hmax v a
        have := hs2 v e
        omega
    obtain ⟨t1, t2⟩ := h.ex v (h.stkVis v (cstk v hv)) t (by rw [hfull, List.take_length]; exact ht)
    refine ⟨t1, fun a => ?_⟩
    have h1 := t2 (cstk v hv) ((inS t).2 (.inl a))
    have h2 := s1lt t a
    have h3 := (cown v hv).2
    omega
  have ndone : ∀ v, st.idx v ≠ 0 → v ∉ S1 → ∀ t ∈ adj G v, st.idx t ≠ 0 ∧ t ∉ S1 := by
    intro v hv hn t ht
    by_cases e : v ∈ st.stk
    · exact cdone v (((inS v).1 e).resolve_left hn) t ht
    · obtain ⟨t1, t2⟩ := h.done v hv e t ht
      exact ⟨t1, fun a => t2 ((inS t).2 (.inl a))⟩
  have mS1 : m ∉ S1 := fun a => by have := s1lt m a; omega
  refine ⟨h.vis, h.inj, h.nx, fun v hv => h.stkVis v ((inS v).2 (.inl hv)), hs1, ?_, ho.1, h.ecLe, ?_, ?_, ?_, ?_, ?_, ndone, ?_, ?_, ?_⟩
  · intro p hp
    have h1 := (ho.2.2 p hp m (List.mem_singleton.2 rfl)).1
    rcases (inS p).1 (h.ndStk p (hsub p hp)) with a | a
    · exact a
    · have := cge p a; omega
  · intro v hv
    obtain ⟨q, hq, o1, o2, o3, o4⟩ := h.own v ((inS v).2 (.inl hv))
    rcases hor q hq with a | a
    · exact ⟨q, a, o1, o2, o3, fun p' hp' hle => o4 p' (hsub p' hp') hle⟩
    · have := s1lt v hv; rw [a] at o1; omega
  · intro v hv
    obtain ⟨l1, u, hu, l2, l3⟩ := h.lowS v ((inS v).2 (.inl hv))
    refine ⟨l1, u, ?_, l2, l3⟩
    rcases (inS u).1 hu with a | a
    · exact a
    · have := cge u a; have := s1lt v hv; omega
  · intro v hv hn
    refine h.fin v ((inS v).2 (.inl hv)) (fun a => ?_)
    rcases hor v a with b | b
    · exact hn b
    · exact mS1 (by rw [← b]; exact hv)
  · intro v hv hn
    by_cases e : v = m
    · rw [e]; exact hec
    · exact h.full v hv (fun a => (hor v a).elim hn e)
  · intro v hv t ht
    obtain ⟨t1, t2⟩ := h.ex v hv t ht
    exact ⟨t1, fun a b => t2 ((inS v).2 (.inl a)) ((inS t).2 (.inl b))⟩
  · intro c' hc'
    rcases List.mem_append.1 hc' with a | a
    · exact h.cls c' a
    · rw [List.mem_singleton] at a; subst a
      refine ⟨hcs, m, (hcm m).2 (List.mem_cons_self ..), fun x => ?_⟩
      rw [hcm x]
      constructor
      · intro hx
        exact ⟨(h.vis x (h.stkVis x (cstk x hx))).1, (cown x hx).1, back _ x hx (Nat.le_refl _)⟩
      · rintro ⟨_, r1, r2⟩
        have hx := Reach.closed (S := fun v => st.idx v ≠ 0 ∧ v ∉ S1) (fun v hv t ht => ndone v hv.1 hv.2 t ht) ⟨h.stkVis m hms, mS1⟩ r1
        by_cases e : x ∈ st.stk
        · exact ((inS x).1 e).resolve_left hx.2
        · have := Reach.closed (S := fun v => st.idx v ≠ 0 ∧ v ∉ st.stk) (fun v hv t ht => h.done v hv.1 hv.2 t ht) ⟨hx.1, e⟩ r2
          exact (this.2 hms).elim
  · intro v
    show (∃ c' ∈ st.comps ++ [c], v ∈ c') ↔ _
    constructor
    · rintro ⟨c', hc', hv⟩
      rcases List.mem_append.1 hc' with a | a
      · obtain ⟨b1, b2⟩ := (h.cov v).1 ⟨c', a, hv⟩
        exact ⟨b1, fun b => b2 ((inS v).2 (.inl b))⟩
      · rw [List.mem_singleton] at a; subst a
        have hv2 := (hcm v).1 hv
        refine ⟨h.stkVis v (cstk v hv2), fun b => ?_⟩
        have := s1lt v b
        have := cge v hv2
        omega
    · rintro ⟨b1, b2⟩
      by_cases e : v ∈ st.stk
      · exact ⟨c, List.mem_append_right _ (List.mem_singleton.2 rfl), (hcm v).2 (((inS v).1 e).resolve_left b2)⟩
      · obtain ⟨c', hc', hv⟩ := (h.cov v).2 ⟨b1, e⟩
        exact ⟨c', List.mem_append_left _ hc', hv⟩
  · show (st.comps ++ [c]).Pairwise _
    rw [List.pairwise_append]
    refine ⟨h.dis, List.pairwise_singleton _ _, ?_⟩
    intro a ha b hb x hx hxb
    rw [List.mem_singleton] at hb; subst hb
    have := ((h.cov x).1 ⟨a, ha, hx⟩).2
    exact this (cstk x ((hcm x).1 hxb))

/-- Where the path is at its end nothing is left on the stack. -/
theorem stk_nil {G : List (List Nat)} {st : St} (h : TInv G st) (hn : st.nodes = []) : st.stk = [] := by
  cases hs : st.stk with
  | nil => rfl
  | cons a l =>
    obtain ⟨p, hp, _⟩ := h.own a (by rw [hs]; exact List.mem_cons_self ..)
    rw [hn] at hp; cases hp
end Go.Proofs.Qxb6603343a
