import Derived.Test.Qxb6603343aM5
namespace Go.Proofs.Qxb6603343a
open Go.RowKit
set_option linter.unusedVariables false

/-! ### 12: two lists that read alike -/
set_option maxRecDepth 20000 in
set_option maxHeartbeats 4000000 in
theorem same12 {w : World} {va vb : Value} {L : List (List Nat)} (ha : GraphN w w.heap.size va L) (hb : GraphN w w.heap.size vb L) (hbig : L.length ≤ 1048576) :
    Calls Try.prog 12 #[va, vb] w fun e w' => e = .returned (.bool true) ∧ Below w.heap.size w w' := by
  obtain ⟨a, ca, rfl⟩ := ha.val
  obtain ⟨b, cb, rfl⟩ := hb.val
  obtain ⟨n, hn⟩ : ∃ n, n = L.length := ⟨_, rfl⟩
  have HN : Hid (n = L.length) := hn
  rw [← hn] at ha hb hbig ⊢
  have HA : Hid (GraphN w w.heap.size (.slice a n ca) L) := ha
  have HB : Hid (GraphN w w.heap.size (.slice b n cb) L) := hb
  clear ha hb hn
  go_enter Try.func12, Try.ntmps12
  go_wp2
  go_loopw [5] (fun iv wr => ∃ i : Nat, i ≤ n ∧ iv = .int .i64 i ∧ Below w.heap.size w wr) (fun iv _ => n - (intOf iv).toNat)
  case atStart => exact ⟨0, by omega, rfl, Below.refl _ _⟩
  case round =>
    obtain ⟨i, hi, rfl, hbel⟩ := hrel
    by_cases hlt : i < n
    · have hil : i < L.length := by rw [← HN.out]; exact hlt
      obtain ⟨x, ra, rc, ea, hca, hla, hra⟩ := (HA.out.keep hbel).row hil
      obtain ⟨y, rb, rd, eb, hcb, _, hrb⟩ := (HB.out.keep hbel).row hil
      subst ea eb
      have HBel : Hid (Below w.heap.size w wr) := hbel
      clear hbel hra hrb
      unfold maxLen at hla
      obtain ⟨m, hm⟩ : ∃ m, m = (adj L i).length := ⟨_, rfl⟩
      rw [← hm] at hca hcb hla
      have HM : Hid (m = (adj L i).length) := hm
      clear hm
      have hI : (i : Int) < (n : Int) := by omega
      go_wp2
      go_quiet (fail)
      go_wp2
      have HB1 : Hid (Below w.heap.size w (wr.drewN nq)) := below_drewN HBel.out nq
      clear hca hcb HBel
      go_loopw [6] (fun jv wx => ∃ j : Nat, j ≤ m ∧ jv = .int .i64 j ∧ Below w.heap.size w wx) (fun jv _ => m - (intOf jv).toNat)
      case atStart => exact ⟨0, by omega, rfl, HB1.out⟩
      case round =>
        obtain ⟨j, hj, rfl, hbel⟩ := hrel
        obtain ⟨x', ra2, rc2, ea, hca, _, hra⟩ := (HA.out.keep hbel).row hil
        obtain ⟨y', rb2, rd2, eb, hcb, _, hrb⟩ := (HB.out.keep hbel).row hil
        cases ea
        cases eb
        rw [← HM.out] at hca hcb
        have HRa : Hid (∀ j t : Nat, (adj L i)[j]? = some t → ∃ y : Addr, ra2 = some y ∧ wr.cell? (y.add j) = some (.int .i64 (t : Int))) := hra
        have HRb : Hid (∀ j t : Nat, (adj L i)[j]? = some t → ∃ y : Addr, rb2 = some y ∧ wr.cell? (y.add j) = some (.int .i64 (t : Int))) := hrb
        have HBel : Hid (Below w.heap.size w wr) := hbel
        clear hra hrb hbel HB1
        by_cases hlj : j < m
        · obtain ⟨t, ht⟩ : ∃ t, (adj L i)[j]? = some t := ⟨(adj L i)[j]'(by rw [← HM.out]; exact hlj), List.getElem?_eq_getElem _⟩
          obtain ⟨z1, e1, hz1⟩ := HRa.out j t ht
          obtain ⟨z2, e2, hz2⟩ := HRb.out j t ht
          subst e1 e2
          have hJ : (j : Int) < (m : Int) := by omega
          clear ht
          go_wp2
          go_quiet (fail)
          go_wp2
          have HB3 : Hid (Below w.heap.size w (wr.drewN nq)) := below_drewN HBel.out nq
          go_roundw
          case rel => exact ⟨j + 1, by omega, by go_num, HB3.out⟩
          case measure => simp [intOf]; omega
        · go_wp2
          go_roundw
          case rel => exact ⟨i + 1, by omega, by go_num, HBel.out⟩
          case measure => simp [intOf]; omega
    · go_wp2
      go_ret
      exact ⟨rfl, hbel⟩
end Go.Proofs.Qxb6603343a
