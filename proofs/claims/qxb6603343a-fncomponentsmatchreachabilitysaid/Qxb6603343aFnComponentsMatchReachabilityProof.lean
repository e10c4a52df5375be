import Derived.Test.Qxb6603343aM13
import Derived.WalkKit
import Derived.ProofKit
import Derived.OpenShut
import Derived.ShutString
import Derived.ChangeOld
import Derived.Below
import Derived.Deep.Matrix
namespace Go.Proofs.Qxb6603343a.fnComponentsMatchReachability
open Go.ChangeShapes Go.WideShapes Go.ChangeAt Go.RowKit
open Go.ChangeMaps (open_string shut_string)
set_option linter.unusedVariables false

theorem own : ownKnob Try.prog.godebug = none := by kernel_rfl
theorem laidOut : laidOutB Try.prog = true := by kernel_rfl

/-- What the opening of a slice of slices of integers says, as the walk wants it. -/
theorem rows_graphZ {w : World} {x : Addr} {len cap : Nat} {A : Nat → Option Addr} {L C : Nat → Nat} {Z : Nat → List Int} (hl : len ≤ cap) (hm : cap ≤ maxLen)
    (h : ∀ r, r < cap → w.cell? (x.add r) = some (.slice (A r) (L r) (C r)) ∧ L r ≤ C r ∧ C r ≤ maxLen ∧ (Z r).length = C r ∧ (A r = none → C r = 0) ∧ ∀ a', A r = some a' → ∀ c, c < C r → w.cell? (a'.add c) = some (.int .i64 ((Z r).getD c 0))) :
    GraphZ w w.heap.size (.slice (some x) len cap) ((List.range len).map (fun r => (Z r).take (L r))) := by
  have hlen : ((List.range len).map (fun r => (Z r).take (L r))).length = len := by simp
  refine ⟨by rw [hlen]; omega, some x, cap, by rw [hlen], fun i hi => ?_⟩
  rw [hlen] at hi
  obtain ⟨h1, h2, h3, h4, h5, h6⟩ := h i (by omega)
  have e : ((List.range len).map (fun r => (Z r).take (L r))).getD i [] = (Z i).take (L i) := by simp [List.getD, hi]
  have el : ((Z i).take (L i)).length = L i := by rw [List.length_take, h4]; omega
  refine ⟨x, _, rfl, World.block_lt_of_cell? _ _ h1, h1, ?_⟩
  rw [e]
  refine ⟨by rw [el]; omega, A i, C i, by rw [el], fun j hj => ?_⟩
  rw [el] at hj
  cases ha : A i with
  | none => have := h5 ha; omega
  | some y =>
    have hc := h6 y ha j (by omega)
    refine ⟨y, rfl, World.block_lt_of_cell? _ _ hc, ?_⟩
    rw [hc]
    have : ((Z i).take (L i)).getD j 0 = (Z i).getD j 0 := by
      simp [List.getD, hj]
    rw [this]

theorem walk (a0 : Option Addr) (len0 cap0 : Nat) (Z : List (List Int)) (w : World) (h : GraphZ w w.heap.size (.slice a0 len0 cap0) Z) :
    Calls Try.prog 3 #[.slice a0 len0 cap0] w fun e w' => e = .returned (.bool true) ∧ Below w.heap.size w w' := by
  refine (law3 h).mono ?_
  rintro e w' ⟨h1, h2⟩
  exact ⟨h1, h2⟩

set_option maxRecDepth 100000 in
theorem lifted (os : Os) (started : os.Started) (H : Type) (enc : TypeId × Value → H) :
    ReturnsInHanded {} Try.checked os 3 .any (Rows.fnComponentsMatchReachabilitySpec.pre6 enc Try.prog Try.f3 Rows.fnComponentsMatchReachabilityRow.domain false) (Rows.fnComponentsMatchReachabilitySpec.post enc Try.prog Try.f3 false true false false) := by
  refine returnsInHanded_of_change (C := Try.checked) own started (by kernel_rfl) Try.func3
    (ChangeSpec.witness6 (enc := enc) (C := Try.checked) false ⟨#[], #[.slice none 0 0], []⟩ 8 (by kernel_rfl) (by kernel_rfl) (by kernel_rfl) (by kernel_rfl)) ?_
  intro W base args ds gs before hval0 hW hcnd _
  have hval : ∀ (j : Nat) t v, Try.f3.params[j]? = some t → args[j]? = some v → Value.okWide Try.prog W .any base t v := hval0
  have hW' := hW
  obtain ⟨p, q, hA0, hV, rfl, hfz, hnd⟩ := hW
  have hA : DataW.TrodAll enc Try.prog W 0 (fun _ => true) true Try.f3.params.toList args.toList ds p := hA0
  rw [Try.params3] at hA hval
  obtain ⟨v0, vs0, d0, ds0, p0, q0, hargs, rfl, rfl, h0, r0⟩ := trodAll_cons hA
  obtain ⟨rfl, rfl, rfl⟩ := trodAll_nil r0
  obtain rfl : args = #[v0] := by cases args; simp_all
  obtain ⟨rfl, rfl⟩ := trodVars_none hV
  obtain ⟨a0, len0, cap0, rfl⟩ := okWide_slice Try.underlying22 (hval 0 22 v0 rfl rfl)
  have k0 := h0
  have lt0 : ∀ x ∈ p0, x.block < W.heap.size := by obtain ⟨m, hm⟩ := k0; exact DataW.trod_lt m _ _ _ hm
  obtain ⟨Z, hG⟩ : ∃ Z, GraphZ W W.heap.size (.slice a0 len0 cap0) Z := by
    obtain ⟨fuel, hf⟩ := h0
    rcases Go.Deep.open_int_rows Try.underlying22 Try.underlying26 Try.underlying3 (by kernel_rfl) (by kernel_rfl) hf with ⟨hcs, _⟩ | ⟨x, l, c, A, L, C, Zr, hcs, _, hl, hm, _, hrows⟩
    · simp [Value.cells] at hcs
      obtain ⟨rfl, rfl, rfl⟩ := hcs
      exact ⟨[], Nat.zero_le _, none, 0, rfl, fun i hi => absurd hi (by simp)⟩
    · simp [Value.cells] at hcs
      obtain ⟨rfl, rfl, rfl⟩ := hcs
      refine ⟨_, rows_graphZ (A := A) (L := L) (C := C) (Z := Zr) hl hm (fun r hr => ?_)⟩
      obtain ⟨e1, e2, e3, e4, _, e6, e7⟩ := hrows r hr
      exact ⟨e1, e2, e3, e4, e6, fun a' ha => (e7 a' ha).2⟩
  clear hA0 hval0
  refine (walk a0 len0 cap0 Z W hG).mono fun e W' ⟨he, bel⟩ => ?_
  subst he
  exact ⟨_, rfl, _, _, _, [], _, [], hW', trodAll_mk1 (shut_bool Try.underlying4 _), (trodAll_cons_mk (Below.trod laidOut (by kernel_rfl) (of_decide_eq_true (by kernel_rfl)) k0 bel lt0) trodAll_mk0), rfl, bel.frame _, fun h => by cases h⟩

theorem over : Rows.fnComponentsMatchReachabilityRow.holds Try.pinned (OpenSpec.ofChange Rows.fnComponentsMatchReachabilitySpec) :=
  OpenClaim.holds_of_wide 3 Try.f3 rfl rfl rfl rfl rfl rfl rfl ⟨rfl, rfl, rfl, rfl, rfl⟩ rfl rfl rfl rfl rfl (by kernel_rfl) Try.func3 (by kernel_rfl)
    (of_decide_eq_true (by kernel_rfl)) (by unfold Func.isWrapper; first | (rw [if_pos (by decide +kernel)]; kernel_rfl) | (rw [if_neg (by decide +kernel)]; exact ⟨rfl, rfl⟩))
    (fun os started H enc _ => lifted os started H enc)

/-- ████ THE STATEMENT ████ -/
theorem proved : Rows.FnComponentsMatchReachabilitySaid := over
#print axioms proved
end Go.Proofs.Qxb6603343a.fnComponentsMatchReachability
