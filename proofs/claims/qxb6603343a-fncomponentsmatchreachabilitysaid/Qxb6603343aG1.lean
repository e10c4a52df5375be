/-
  PLAIN: graphs, reachability, the components' list. No Go in sight.
-/
import Derived.Below
namespace Go.Proofs.Qxb6603343a
set_option linter.unusedVariables false

theorem pairwise_turn {α : Type} {r t : α → α → Prop} : ∀ {l : List α}, (∀ a b, a ∈ l → b ∈ l → r a b → t a b) → l.Pairwise r → l.Pairwise t
  | [], _, _ => List.Pairwise.nil
  | x :: l, h, hp => by
    rw [List.pairwise_cons] at hp ⊢
    exact ⟨fun b hb => h x b (List.mem_cons_self ..) (List.mem_cons_of_mem _ hb) (hp.1 b hb), pairwise_turn (fun a b ha hb => h a b (List.mem_cons_of_mem _ ha) (List.mem_cons_of_mem _ hb)) hp.2⟩

def adj (G : List (List Nat)) (v : Nat) : List Nat := G.getD v []

def InRange (G : List (List Nat)) : Prop := ∀ v, ∀ t ∈ adj G v, t < G.length

def reachN (G : List (List Nat)) : Nat → Nat → Nat → Prop
  | 0, u, v => u = v
  | k + 1, u, v => ∃ x, x ∈ adj G u ∧ reachN G k x v

def Reach (G : List (List Nat)) (u v : Nat) : Prop := ∃ k, reachN G k u v

section
variable {G : List (List Nat)}

theorem Reach.refl (u : Nat) : Reach G u u := ⟨0, rfl⟩

theorem reachN_trans {a b : Nat} {u v x : Nat} (h : reachN G a u v) (k : reachN G b v x) : reachN G (a + b) u x := by
  induction a generalizing u with
  | zero => have e : u = v := h; subst e; rw [Nat.zero_add]; exact k
  | succ a ih =>
    obtain ⟨y, hy, hr⟩ := h
    rw [Nat.succ_add]
    exact ⟨y, hy, ih hr⟩

theorem Reach.trans {u v x : Nat} (h : Reach G u v) (k : Reach G v x) : Reach G u x := by
  obtain ⟨a, ha⟩ := h
  obtain ⟨b, hb⟩ := k
  exact ⟨a + b, reachN_trans ha hb⟩

theorem Reach.edge {u v : Nat} (h : v ∈ adj G u) : Reach G u v := ⟨1, v, h, rfl⟩

theorem Reach.closed {S : Nat → Prop} (hS : ∀ v, S v → ∀ t ∈ adj G v, S t) {u v : Nat} (hu : S u) (h : Reach G u v) : S v := by
  obtain ⟨k, hk⟩ := h
  induction k generalizing u with
  | zero => have e : u = v := hk; subst e; exact hu
  | succ k ih =>
    obtain ⟨x, hx, hr⟩ := hk
    exact ih (hS u hu x hx) hr

def Twoway (G : List (List Nat)) (u v : Nat) : Prop := Reach G u v ∧ Reach G v u

theorem Twoway.refl (u : Nat) : Twoway G u u := ⟨Reach.refl u, Reach.refl u⟩
theorem Twoway.symm {u v : Nat} (h : Twoway G u v) : Twoway G v u := ⟨h.2, h.1⟩
theorem Twoway.trans {u v x : Nat} (h : Twoway G u v) (k : Twoway G v x) : Twoway G u x := ⟨h.1.trans k.1, k.2.trans h.2⟩
end

/-- A list that is strictly sorted and holds just the circle of one of its members. -/
def IsClass (G : List (List Nat)) (c : List Nat) : Prop := c.Pairwise (· < ·) ∧ ∃ i, i ∈ c ∧ ∀ x, x ∈ c ↔ (x < G.length ∧ Twoway G i x)

/-- THE COMPONENTS' LIST: classes, by their heads, all nodes. -/
structure IsComps (G : List (List Nat)) (L : List (List Nat)) : Prop where
  cls : ∀ c ∈ L, IsClass G c
  ord : L.Pairwise (fun a b => a.headD 0 < b.headD 0)
  all : ∀ x, x < G.length → ∃ c ∈ L, x ∈ c

theorem sorted_ext {α : Type} {r : α → α → Prop} (irr : ∀ a, ¬ r a a) (asym : ∀ a b, r a b → r b a → False) : ∀ {l1 l2 : List α}, l1.Pairwise r → l2.Pairwise r → (∀ x, x ∈ l1 ↔ x ∈ l2) → l1 = l2
  | [], [], _, _, _ => rfl
  | [], b :: l2, _, _, h => by have := (h b).2 (List.mem_cons_self ..); cases this
  | a :: l1, [], _, _, h => by have := (h a).1 (List.mem_cons_self ..); cases this
  | a :: l1, b :: l2, h1, h2, h => by
    rw [List.pairwise_cons] at h1 h2
    have e : a = b := by
      rcases List.mem_cons.1 ((h a).1 (List.mem_cons_self ..)) with e | e
      · exact e
      · rcases List.mem_cons.1 ((h b).2 (List.mem_cons_self ..)) with f | f
        · exact f.symm
        · exact (asym _ _ (h1.1 b f) (h2.1 a e)).elim
    subst e
    have e2 : l1 = l2 := by
      refine sorted_ext irr asym h1.2 h2.2 fun x => ⟨fun hx => ?_, fun hx => ?_⟩
      · rcases List.mem_cons.1 ((h x).1 (List.mem_cons_of_mem _ hx)) with e | e
        · subst e; exact (irr _ (h1.1 _ hx)).elim
        · exact e
      · rcases List.mem_cons.1 ((h x).2 (List.mem_cons_of_mem _ hx)) with e | e
        · subst e; exact (irr _ (h2.1 _ hx)).elim
        · exact e
    rw [e2]

theorem nat_sorted_ext {l1 l2 : List Nat} (h1 : l1.Pairwise (· < ·)) (h2 : l2.Pairwise (· < ·)) (h : ∀ x, x ∈ l1 ↔ x ∈ l2) : l1 = l2 :=
  sorted_ext (fun a => Nat.lt_irrefl a) (fun a b h k => Nat.lt_irrefl _ (Nat.lt_trans h k)) h1 h2 h

theorem IsClass.of_mem {G : List (List Nat)} {c : List Nat} (h : IsClass G c) {x : Nat} (hx : x ∈ c) : ∀ y, y ∈ c ↔ (y < G.length ∧ Twoway G x y) := by
  obtain ⟨_, i, _, hc⟩ := h
  intro y
  have h1 := (hc x).1 hx
  rw [hc y]
  exact ⟨fun ⟨a, b⟩ => ⟨a, h1.2.symm.trans b⟩, fun ⟨a, b⟩ => ⟨a, h1.2.trans b⟩⟩

/-- TWO CLASSES WITH A COMMON MEMBER ARE ONE. -/
theorem IsClass.eq {G : List (List Nat)} {c d : List Nat} (hc : IsClass G c) (hd : IsClass G d) {x : Nat} (h1 : x ∈ c) (h2 : x ∈ d) : c = d :=
  nat_sorted_ext hc.1 hd.1 fun y => by rw [hc.of_mem h1, hd.of_mem h2]

theorem IsComps.unique {G : List (List Nat)} {L M : List (List Nat)} (hL : IsComps G L) (hM : IsComps G M) : L = M := by
  have sub : ∀ {A B : List (List Nat)}, IsComps G A → IsComps G B → ∀ c, c ∈ A → c ∈ B := by
    intro A B hA hB c hc
    have h1 := hA.cls c hc
    obtain ⟨_, i, hi, hcl⟩ := h1
    obtain ⟨d, hd, hid⟩ := hB.all i ((hcl i).1 hi).1
    rw [(hA.cls c hc).eq (hB.cls d hd) hi hid]
    exact hd
  exact sorted_ext (r := fun a b : List Nat => a.headD 0 < b.headD 0) (fun a => Nat.lt_irrefl _) (fun a b h k => Nat.lt_irrefl _ (Nat.lt_trans h k)) hL.ord hM.ord fun c => ⟨sub hL hM c, sub hM hL c⟩
end Go.Proofs.Qxb6603343a
