import Derived.Test.Qxb6602032aHex
import Derived.Laws.CopyOwn
namespace Go.Proofs.Qxb6602032a
open Go.RowKit

theorem Try.info5 : (Try.prog.info? 5).map (fun i => (i.zero, i.size, i.bytes)) = some (some (.int .u8 0), 1, 1) := by kernel_rfl
theorem Try.size5 : (Try.prog.info? 5).map (·.size) = some 1 := by kernel_rfl

theorem at_copy {P : Program} {w : World} {ops : Array Oper} {rest : List Oper} {a : Act} {Q : Exit → Act → World → Prop} {dst : Option Tmp} {d s : Operand} {dT sT ty : TypeId} {pos : String} {after : Array Edge} {g : Option (Tmp × Bool)}
    (h : wpList P ops Q ({ dst := dst, op := .call { callee := .builtin .copy, args := #[d, s], argTypes := #[dT, sT] }, type := ty, pos := pos, after := after, guard := g } :: rest) a w) :
    wpList P ops Q ({ dst := dst, op := .call { callee := .builtin .copy, args := #[d, s], argTypes := #[dT, sT] }, type := ty, pos := pos, after := after, guard := g } :: rest) a w := h

theorem copy_full {P : Program} {w : World} {ops : Array Oper} {rest : List Oper} {o : Oper} {a : Act} {Q : Exit → Act → World → Prop} (hgd : o.guard = none) (d s : Operand) (dT sT : TypeId)
    (ho : o.op = .call { callee := .builtin .copy, args := #[d, s], argTypes := #[dT, sT] }) (elem : TypeId) (hu : P.underlying dT = some (.slice elem)) (hsz : (P.info? elem).map (·.size) = some 1)
    (g n dCap : Nat) (sp : Option Addr) (sCap : Nat) (hd : a.eval d = .slice (some ⟨g, 0, none⟩) n dCap) (hs : a.eval s = .slice sp n sCap)
    (B : Nat) (xs : List Value) (hown : w.ownsRow B elem 1 (.slice (some ⟨g, 0, none⟩) n dCap) n xs) (cs : List Value) (hn : cs.length = n)
    (hsrc : 0 < n → ∃ ad, sp = some ad ∧ ∀ j v, cs[j]? = some v → w.cell? (ad.add j) = some v) (h1 : ∀ v ∈ cs, v.oneCell' = true) (w0 : World) (hb : Below B w0 w)
    (h : ∀ w', w'.ownsRow B elem 1 (.slice (some ⟨g, 0, none⟩) n dCap) n cs → Below B w0 w' → wpList P ops Q rest (a.put o.dst (goInt n)) w') :
    wpList P ops Q (o :: rest) a w := by
  rcases hown.2 with ⟨h', _⟩ | ⟨g', cap', cur, h', hBg, hg, hnc, hcm, hcs, htake⟩
  · simp at h'
  simp only [Value.slice.injEq, Option.some.injEq, Addr.mk.injEq, and_true, true_and] at h'
  obtain ⟨rfl, rfl⟩ := h'
  have hmin : cs.length = Nat.min n n := by rw [hn]; exact (Nat.min_self n).symm
  have hcur : cur.toList.length = dCap := by simpa using hcs
  refine wpList_copy_splice hgd d s dT sT ho elem hu hsz _ _ n dCap n sCap hd hs g 0 cur.toList elem (by simpa using hg) cs hmin ?_ (by rw [hcur]; omega) h1 B w0 hb hBg ?_
  · intro hpos
    obtain ⟨ad, h2, h3⟩ := hsrc (by omega)
    exact ⟨rfl, ad, h2, h3⟩
  · intro w' hw' hb'
    rw [hn]
    refine h w' ⟨by omega, .inr ⟨g, dCap, _, rfl, hBg, hw'.out, hnc, hcm, ?_, ?_⟩⟩ hb'
    · rw [List.size_toArray, length_splice _ _ _ (by rw [hcur]; omega), hcur]; omega
    · simp [splice, hn]

theorem add_zero' (g j : Nat) : (⟨g, 0, none⟩ : Addr).add j = ⟨g, j, none⟩ := by
  unfold Addr.add
  by_cases h : j = 0
  · subst h; rfl
  · simp [h]

theorem row_cell {w : World} {B g n cap : Nat} {zs : List Int} (h : w.ownsRow B 5 1 (.slice (some ⟨g, 0, none⟩) n cap) n ((zs.take n).map (Value.int .u8))) (j : Nat) (hj : j < n) (hz : n ≤ zs.length) :
    w.cell? ⟨g, j, none⟩ = some (.int .u8 (zs.getD j 0)) := by
  have hj2 : j < zs.length := by omega
  rw [h.cellAt j (by omega)]
  simp [hj, hj2]

theorem cells_src {w : World} {x : Addr} {n : Nat} {zs : List Int} (hc : ∀ i, i < n → w.cell? (x.add i) = some (.int .u8 (zs.getD i 0))) (hz : n ≤ zs.length) : ∀ j v, ((zs.take n).map (Value.int .u8))[j]? = some v → w.cell? (x.add j) = some v := by
  intro j v h
  have hj : j < n := by
    have := (List.getElem?_eq_some_iff.1 h).1
    simp at this; omega
  rw [hc j hj, ← h]
  have hj2 : j < zs.length := by omega
  simp [hj, hj2]

theorem walk_big (a0 : Option Addr) (len0 cap0 : Nat) (w : World) (h : 1048576 < len0) :
    Calls Try.prog 3 #[.slice a0 len0 cap0] w fun e w' => e = .returned (.bool true) ∧ w = w' := by
  go_enter Try.func3, Try.ntmps3
  go_wp2_with (go_at_call 6; refine (zzBytes_no _ _ _ _ h).mono ?_; rintro e w' ⟨rfl, rfl⟩)
  go_ret
  exact ⟨rfl, rfl⟩

theorem walk_nil (w : World) :
    Calls Try.prog 3 #[.slice none 0 0] w fun e w' => e = .returned (.bool true) ∧ w = w' := by
  have hne := fun (w : World) (a : Option Addr) (n c : Nat) => run_neq_slice_nil_any (P := Try.prog) w 22 5 a n c 0 0 Try.underlying22
  have h8 := zzIsHex_any none 0 0 [] w (by omega) (by simp) (fun j hj => absurd hj (by omega))
  go_enter Try.func3, Try.ntmps3
  go_wp2_with (go_at_call 6; refine (zzBytes_yes _ _ _ _ (by omega)).mono ?_; rintro e w' ⟨rfl, rfl⟩)
  refine wp_loop_rounds 1 ?_
  rw [rounds_succ]
  go_wp2_with (go_at_call 8; refine h8.mono ?_; rintro e w' ⟨rfl, rfl⟩)
  go_ret
  exact ⟨ret_bool (by simp [allHex]), rfl⟩

set_option maxHeartbeats 800000 in
theorem walk_some (x : Addr) (len cap : Nat) (zs : List Int) (w : World) (hlen : len ≤ 1048576) (hz : len ≤ zs.length) (hx : ∀ i, i < len → (x.add i).block < w.heap.size) (hc : ∀ i, i < len → w.cell? (x.add i) = some (.int .u8 (zs.getD i 0))) :
    Calls Try.prog 3 #[.slice (some x) len cap] w fun e w' => e = .returned (.bool true) ∧ Below w.heap.size w w' := by
  have hne := fun (w : World) (a : Option Addr) (n c : Nat) => run_neq_slice_nil_any (P := Try.prog) w 22 5 a n c 0 0 Try.underlying22
  obtain ⟨i0, hi, hz0, hz1, hz2⟩ := info_parts Try.info5
  go_enter Try.func3, Try.ntmps3
  go_wp2_with (first
    | (go_at_call 6; refine (zzBytes_yes _ _ _ _ hlen).mono ?_; rintro e w' ⟨rfl, rfl⟩)
    | (at_make; refine wpList_make_full _ rfl _ _ 22 rfl w.heap.size 5 i0 (.int .u8 0) 1 Try.underlying22 hi hz0 hz1 _ _ _ _ len rfl rfl rfl rfl (by rw [hz2]; omega) (by unfold maxLen; omega) (Nat.le_refl _) ?_; intro w1 hown1 hgrow1; have hb1 : Below w.heap.size w w1 := (Below.refl _ _).grown hgrow1 (Nat.le_refl _) (by simp); have hc1 : ∀ i, i < len → w1.cell? (x.add i) = some (.int .u8 (zs.getD i 0)) := fun i hi => (hb1.cell (hx i hi)).trans (hc i hi))
    | (with_reducible refine at_copy ?_; refine copy_full rfl (.tmp 17) (.tmp 18) 22 22 rfl 5 Try.underlying22 Try.size5 w.heap.size len len (some x) cap rfl rfl w.heap.size _ hown1 ((zs.take len).map (Value.int .u8)) (by simp; omega) (fun _ => ⟨x, rfl, cells_src hc1 hz⟩) (ints_oneCell _ _) w hb1 ?_; intro w2 hown2 hb2))
  have hcell : ∀ j, j < len → w2.cell? ⟨w.heap.size, j, none⟩ = some (.int .u8 (zs.getD j 0)) := fun j hj => row_cell hown2 j hj hz
  have h8 : Hid (Calls Try.prog 8 #[.slice (some ⟨w.heap.size, 0, none⟩) len len] w2 fun e w' => e = .returned (.bool (allHex (zs.take len))) ∧ w2 = w') :=
    zzIsHex_any (some ⟨w.heap.size, 0, none⟩) len len zs w2 (by omega) hz (fun j hj => ⟨_, rfl, by rw [add_zero']; exact hcell j hj⟩)
  clear hown1 hgrow1 hb1 hc1 hown2 hc hx
  go_loop [4, 5] (fun v i => ∃ k : Nat, k ≤ len ∧ v = .bool true ∧ i = .int .i64 k ∧ allHex (zs.take k) = true) (fun _ i => len - (intOf i).toNat)
  case atStart => exact ⟨0, Nat.zero_le _, rfl, rfl, rfl⟩
  case round =>
    obtain ⟨k, hk, rfl, rfl, hall⟩ := hrel
    have HA : Hid (allHex (zs.take k) = true) := hall
    clear hall
    by_cases hlt : k < len
    · have hx := hcell k hlt
      clear hcell
      have HS := allHex_snoc zs k (by omega)
      have HF := allHex_false zs k len (by omega) hlt
      rw [HA.out, Bool.true_and] at HS
      obtain ⟨c, hcd⟩ : ∃ c, c = zs.getD k 0 := ⟨_, rfl⟩
      rw [← hcd] at hx HS HF
      clear hcd
      have HS' : Hid (allHex (zs.take (k + 1)) = hexB c) := HS
      have HF' : Hid (hexB c = false → allHex (zs.take len) = false) := HF
      clear HS HF
      by_cases hcx : hexB c = true
      · go_wp2_with (go_at_call 7; refine (inHex_any _ _).mono ?_; rintro e w' ⟨rfl, rfl⟩)
        go_round
        case rel => exact ⟨k + 1, by omega, rfl, by go_num, by rw [HS'.out]; exact hcx⟩
        case measure => simp [intOf]; omega
      · have hcf : hexB c = false := by simpa using hcx
        clear hcx
        go_wp2_with (first
          | (go_at_call 7; refine (inHex_any _ _).mono ?_; rintro e w' ⟨rfl, rfl⟩)
          | (go_at_call 8; refine h8.out.mono ?_; rintro e w' ⟨rfl, rfl⟩))
        go_ret
        exact ⟨ret_bool (by rw [HF'.out hcf]; rfl), hb2⟩
    · have : k = len := by omega
      subst this
      clear hcell
      go_wp2_with (go_at_call 8; refine h8.out.mono ?_; rintro e w' ⟨rfl, rfl⟩)
      go_ret
      exact ⟨ret_bool (by rw [HA.out]), hb2⟩
end Go.Proofs.Qxb6602032a
