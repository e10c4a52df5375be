import Derived.Test.Qxb6603343aM11
namespace Go.Proofs.Qxb6603343a
open Go.RowKit
set_option linter.unusedVariables false

def WhileRel (G : List (List Nat)) (E : Env) (n : Nat) (w : World) (i gk : Nat) (cv pv : Value) (wr : World) : Prop :=
  ∃ st sv, TInv G st ∧ Room G st ∧ CMem E n w st sv cv pv wr ∧ (∀ v, v < i + 1 → st.idx v ≠ 0) ∧ gk = meas G st

theorem own_len {w : World} {B : Nat} {e : TypeId} {s n : Nat} {v : Value} {xs : List Value} (h : w.ownsRow B e s v n xs) : ∃ a c, v = .slice a n c := by
  rcases h.2 with ⟨a, h0⟩ | ⟨g, cap, cur, a, _⟩
  · exact ⟨none, 0, by rw [a, h0]⟩
  · exact ⟨_, _, a⟩

theorem own_zero {w : World} {B : Nat} {e : TypeId} {s n : Nat} {v : Value} {xs : List Value} (h : w.ownsRow B e s v n xs) (h0 : n = 0) : ∃ a c, v = .slice a 0 c := by
  subst h0
  exact own_len h

def PopRel (E : Env) (n : Nat) (w : World) (st2 : St) (Bc : Nat) (cv pv : Value) (S1 S2 : List Nat) (m gk : Nat) (xv : Value) (wx : World) : Prop :=
  ∃ R C sv, S2 = R ++ C.reverse ∧ gk = R.length + 1 ∧ PMem E n w st2 Bc cv pv (S1 ++ m :: R) C sv xv wx

theorem pop_facts {G : List (List Nat)} {st : St} (h : TInv G st) {S1 S2 R C : List Nat} {m : Nat} (hS : st.stk = S1 ++ m :: S2) (hR : S2 = R ++ C.reverse) :
    C.length + R.length + 1 ≤ G.length ∧ (∀ T x, S1 ++ m :: R = T ++ [x] → x ∉ T ∧ x < G.length) ∧ ∀ R' x, R = R' ++ [x] → x ≠ m := by
  have hnd := ord_nodup h.stkOrd
  have hlen := h.stkLen
  have e1 : st.stk = (S1 ++ m :: R) ++ C.reverse := by rw [hS, hR]; simp
  refine ⟨?_, ?_, ?_⟩
  · rw [e1] at hlen
    simp at hlen
    omega
  · intro T x e
    rw [e1, e] at hnd
    rw [List.nodup_append, List.nodup_append] at hnd
    refine ⟨fun hx => hnd.1.2.2 x hx x (List.mem_singleton.2 rfl) rfl, ?_⟩
    have : x ∈ st.stk := by rw [e1, e]; simp
    exact (h.vis x (h.stkVis x this)).1
  · intro R' x e e2
    subst e2
    rw [e1, e] at hnd
    rw [List.nodup_append] at hnd
    have h2 := hnd.1
    rw [List.nodup_append, List.nodup_cons] at h2
    exact h2.2.1.1 (by simp)

theorem PMem.pushed {E : Env} {n : Nat} {w0 : World} {st : St} {Bc : Nat} {cv pv sv xv v5 : Value} {T C : List Nat} {x : Nat} {wT w5 : World} {o : Obj} (h : PMem E n w0 st Bc cv pv T C sv xv wT)
    (ho : w5.ownsRow Bc 3 1 v5 (C.length + 1) (ints C ++ [.int .i64 (x : Int)])) (hg : (wT.alloc o).grownBy w5 xv.ownBlock) : PMem E n w0 st Bc cv pv T (C ++ [x]) sv v5 w5 := by
  refine (h.alloc o).xgrown hg ?_
  have e : (C ++ [x]).length = C.length + 1 := by simp
  have e2 : ints (C ++ [x]) = ints C ++ [.int .i64 (x : Int)] := by simp [ints]
  rw [e, e2]; exact ho

theorem CMem.bumpAt {E : Env} {n : Nat} {w0 : World} {st : St} {sv cv : Value} {wr : World} {g cap pl : Nat} (h : CMem E n w0 st sv cv (.slice (some ⟨g, 0, none⟩) (pl + 1) cap) wr) {P : List Nat} {m : Nat} (hP : st.nodes = P ++ [m]) (hm : m ∉ P) (hpl : P.length = pl) {z : Int} (hz : z = ((st.ec m + 1 : Nat) : Int)) :
    CMem E n w0 (bumpS st m) sv cv (.slice (some ⟨g, 0, none⟩) (pl + 1) cap) (wr.setCell ⟨g, pl * 2 + 1, none⟩ (.int .i64 z)) := by
  subst hpl
  exact h.bump hP hm rfl hz

theorem cell_two_at (w : World) (g : Nat) (x y : Value) (t : TypeId) (hg : g = w.heap.size) : ∀ j u, [x, y][j]? = some u → (w.alloc (.cells #[x, y] t)).cell? ((⟨g, 0, none⟩ : Addr).add j) = some u := by
  subst hg
  intro j u hj
  rw [addr_lit, cell_row (heap_alloc_new w _)]
  rw [← hj]
  simp
theorem two_ints (x y : Int) : ∀ u ∈ [Value.int .i64 x, Value.int .i64 y], u.oneCell' = true := by
  intro u hu; simp at hu; rcases hu with e | e <;> subst e <;> rfl

theorem visited_on {st : St} {i t : Nat} (h : ∀ v, v < i + 1 → st.idx v ≠ 0) (h1 : 1 ≤ st.next) : ∀ v, v < i + 1 → (visitS st t).idx v ≠ 0 := by
  intro v hv
  show upd st.idx t st.next v ≠ 0
  by_cases e : v = t
  · rw [e, upd_same]; omega
  · rw [upd_other _ _ e]; exact h v hv

theorem while_start {G : List (List Nat)} {E : Env} {n : Nat} {w : World} {st : St} {sv cv : Value} {i : Nat} {wr : World} (hT : TInv G st) (hRm : Room G st) (hnd : st.nodes = []) (hM : RMem E n w (visitS st i) sv cv wr) (hvis : ∀ v, v < i → st.idx v ≠ 0) (hi : i < G.length) (h0 : st.idx i = 0) :
    WhileRel G E n w i (meas G (visitS st i)) cv (.slice (some ⟨wr.heap.size, 0, none⟩) 1 1) (wr.alloc (.cells #[.int .i64 (i : Int), .int .i64 0] 31)) := by
  refine ⟨visitS st i, sv, visit_inv hT hi h0 (fun p hp => by rw [hnd] at hp; cases hp), hRm.visit hi h0 hT.nx, root_start hM hnd, fun v hv => ?_, rfl⟩
  have hnx := hT.nx
  show upd st.idx i st.next v ≠ 0
  by_cases e : v = i
  · rw [e, upd_same]; omega
  · rw [upd_other _ _ e]; exact hvis v (by omega)

set_option maxRecDepth 20000 in
set_option maxHeartbeats 4000000 in
theorem comps17 {w : World} {v : Value} {G : List (List Nat)} (hG : GraphN w w.heap.size v G) (hr : InRange G) (hbig : G.length ≤ 1024) :
    Calls Try.prog 17 #[v] w fun e w' => CompOut G w e w' := by
  obtain ⟨a, c, rfl⟩ := hG.val
  obtain ⟨i4, hi4, hq0, hq1, hq2⟩ := info_parts Try.info4
  obtain ⟨i3, hi3, hy0, hy1, hy2⟩ := info_parts Try.info3
  obtain ⟨i26, hi26, hx0, hx1, hx2⟩ := info_parts Try.info26
  obtain ⟨i31, hi31, hp0, hp1, hp2⟩ := info_parts Try.info31
  obtain ⟨n, hn⟩ : ∃ n, n = G.length := ⟨_, rfl⟩
  have HN : Hid (n = G.length) := hn
  rw [← hn] at hG hbig ⊢
  have HG : Hid (GraphN w w.heap.size (.slice a n c) G) := hG
  have HR : Hid (InRange G) := hr
  clear hG hr hn
  go_enter Try.func17, Try.ntmps17
  go_wp2_with (first
    | (at_make; refine wpList_make_full _ rfl (.tmp 19) (.tmp 19) 26 rfl w.heap.size 3 i3 (.int .i64 0) 1 Try.underlying26 hi3 hy0 hy1 _ _ _ _ n rfl rfl rfl rfl (by rw [hy2]; omega) (by unfold maxLen; omega) (Nat.le_refl _) ?_; intro w1 hown1 hgrow1; have Hown1 := hide hown1; have Hgrow1 := hide hgrow1; clear hown1 hgrow1)
    | (at_make; refine wpList_make_full _ rfl (.tmp 22) (.tmp 22) 26 rfl (w1.heap.size + 1) 3 i3 (.int .i64 0) 1 Try.underlying26 hi3 hy0 hy1 _ _ _ _ n rfl rfl rfl rfl (by rw [hy2]; omega) (by unfold maxLen; omega) (by simp) ?_; intro w2 hown2 hgrow2; have Hown2 := hide hown2; have Hgrow2 := hide hgrow2; clear hown2 hgrow2)
    | (at_make; refine wpList_make_full _ rfl (.tmp 25) (.tmp 25) 28 rfl (w2.heap.size + 1) 4 i4 (.bool false) 1 Try.underlying28 hi4 hq0 hq1 _ _ _ _ n rfl rfl rfl rfl (by rw [hq2]; omega) (by unfold maxLen; omega) (by simp) ?_; intro w3 hown3 hgrow3; have Hown3 := hide hown3; have Hgrow3 := hide hgrow3; clear hown3 hgrow3))
  have HM0 : Hid (RMem (initEnv w w1 w2 w3) n w st0 (.slice none 0 0) (.slice none 0 0) (((w3.alloc (.cells #[.slice (some ⟨w2.heap.size + 1, 0, none⟩) n n] 28)).alloc (.cells #[.slice none 0 0] 26)).alloc (.cells #[.int .i64 1] 3))) := by
    have h2 := Hown2.out
    have h3 := Hown3.out
    rw [show (w1.alloc (.cells #[.slice (some ⟨w.heap.size, 0, none⟩) n n] 26)).heap.size = w1.heap.size + 1 by simp] at h2
    rw [show (w2.alloc (.cells #[.slice (some ⟨w1.heap.size + 1, 0, none⟩) n n] 26)).heap.size = w2.heap.size + 1 by simp] at h3
    exact init_mem Hown1.out Hgrow1.out h2 Hgrow2.out h3 Hgrow3.out
  generalize (((w3.alloc (.cells #[.slice (some ⟨w2.heap.size + 1, 0, none⟩) n n] 28)).alloc (.cells #[.slice none 0 0] 26)).alloc (.cells #[.int .i64 1] 3)) = W at HM0 ⊢
  clear Hown1 Hgrow1 Hown2 Hgrow2 Hown3 Hgrow3
  obtain ⟨E, hE⟩ : ∃ E : Env, E = initEnv w w1 w2 w3 := ⟨_, rfl⟩
  rw [← hE] at HM0
  have q8 : w3.heap.size + 1 + 1 = E.bN := by rw [hE]; rfl
  have q7 : w3.heap.size + 1 = E.bS := by rw [hE]; rfl
  have q6 : w3.heap.size = E.bO := by rw [hE]; rfl
  have q5 : w2.heap.size + 1 = E.O := by rw [hE]; rfl
  have q4 : w2.heap.size = E.bL := by rw [hE]; rfl
  have q3 : w1.heap.size + 1 = E.Lw := by rw [hE]; rfl
  have q2 : w1.heap.size = E.bI := by rw [hE]; rfl
  have q1 : w.heap.size = E.I := by rw [hE]; rfl
  rw [q8, q7, q6, q5, q4, q3, q2, q1]
  clear q8 q7 q6 q5 q4 q3 q2 hE
  have HQ1 := hide q1
  clear q1 w1 w2 w3
  have HR0 : Hid (RootRel G E n w (.slice none 0 0) 0 W) := ⟨st0, _, st0_inv G, room0 G, rfl, HM0.out, fun v hv => absurd hv (by omega)⟩
  clear HM0
  go_loopg [7, 30] n (fun gk cv iv wr => ∃ i : Nat, gk = n - i ∧ i ≤ n ∧ iv = .int .i64 i ∧ RootRel G E n w cv i wr)
  case atStart => exact ⟨0, by omega, by omega, rfl, HR0.out⟩
  case round =>
    clear HR0
    obtain ⟨i, hgk, hin, rfl, hRel⟩ := hrel
    have HRel := hide hRel
    clear hRel
    by_cases hlt : i < n
    · obtain ⟨st, sv, hT, hRm, hnd, hM, hvis⟩ := HRel.out
      have cbI := hM.tm.cbI
      have cI := hM.tm.cI hlt
      have HT := hide hT
      have HRm := hide hRm
      have HNd := hide hnd
      have HM := hide hM
      have HV := hide hvis
      clear hT hRm hnd hM hvis
      by_cases h0 : st.idx i = 0
      · have cI0 : wr.cell? ⟨E.I, i, none⟩ = some (.int .i64 0) := by rw [cI, h0]; rfl
        clear cI
        have hrl := HRm.out.le
        have hsl := HT.out.stkLen
        rw [← HN.out] at hrl hsl
        have H19 := hide (visit19 HM.out.tm hlt hbig (by omega) hsl)
        have H0 := hide h0
        clear h0 hrl hsl
        go_wp2_with fail
        refine H19.out.mono ?_
        rintro e w1 hv
        obtain ⟨sv', hM'⟩ := HM.out.visit hv
        have he := hv.res
        subst he
        have HW := hide (while_start HT.out HRm.out HNd.out hM' HV.out (by rw [← HN.out]; exact hlt) H0.out)
        clear hM' hv H19 HM HV HNd HRm HT H0 cbI cI0 HRel
        go_wp2
        go_loopg [7, 11] (meas G (visitS st i)) (fun gk cv pv wr => WhileRel G E n w i gk cv pv wr)
        case atStart => exact HW.out
        case round =>
          clear HW
          obtain ⟨st, sv, hT, hRm, hM, hvis, hgk2⟩ := hrel
          have HT := hide hT
          have HRm := hide hRm
          have HM := hide hM
          have HV := hide hvis
          have HGK := hide hgk2
          clear hT hRm hM hvis hgk2
          rcases List.eq_nil_or_concat st.nodes with hnil | ⟨P, m, hP⟩
          · obtain ⟨pa, pc, hpv⟩ := own_zero HM.out.pt (by rw [hnil]; rfl)
            subst hpv
            have HNil := hide hnil
            clear hnil
            go_wp2
            go_roundg (n - (i + 1))
            case measure => omega
            case rel => exact ⟨i + 1, rfl, by omega, by go_num, st, sv, HT.out, HRm.out, HNil.out, HM.out.rm, HV.out⟩
          · rw [List.concat_eq_append] at hP
            obtain ⟨g, cap, hpv, hcap, hgB, c1, c2, f2⟩ := HM.out.top hP
            subst hpv
            have hPl := HT.out.ndLen
            rw [hP, List.length_append, List.length_singleton, ← HN.out] at hPl
            have hmv := HT.out.vis m (HT.out.stkVis m (HT.out.ndStk m (by rw [hP]; simp)))
            have hmn : m < n := by rw [HN.out]; exact hmv.1
            have hel := HT.out.ecLe m
            have HP := hide hP
            clear hP hmv
            generalize hpl : P.length = pl at *
            have HPL := hide hpl
            clear hpl
            obtain ⟨ga, ra, rc, hga, hrowc, hrl, hrow⟩ := (HG.out.keep HM.out.rm.tm.bel).row (i := m) (by rw [← HN.out]; exact hmn)
            subst hga
            unfold maxLen at hrl
            have HRow := hide hrow
            clear hrow
            go_wp2
            by_cases hec : st.ec m < (adj G m).length
            · obtain ⟨t, ht⟩ : ∃ t, (adj G m)[st.ec m]? = some t := ⟨(adj G m)[st.ec m], List.getElem?_eq_getElem hec⟩
              obtain ⟨y, hy, hcy⟩ := HRow.out _ t ht
              subst hy
              have htn : t < n := by rw [HN.out]; exact HR.out m t (List.mem_of_getElem? ht)
              have Ht := hide ht
              have hPm : m ∉ P := by
                have := HT.out.ndNodup
                rw [HP.out, List.nodup_append] at this
                exact fun e => this.2.2 m e m (List.mem_singleton.2 rfl) rfl
              have HPm := hide hPm
              clear ht hPm
              go_quiet (fail)
              go_wp2
              go_quiet (fail)
              go_upto_region 18 with fail
              go_cut [14] (fun s wc => s = .int .i64 (t : Int) ∧ CMem E n w (bumpS st m) sv u7 (.slice (some ⟨g, 0, none⟩) (pl + 1) cap) wc)
              case first =>
                go_wp2
                go_meet
                case rel => exact ⟨rfl, (HM.out.drewN _).bumpAt HP.out HPm.out HPL.out (by omega)⟩
              case rest =>
                obtain ⟨rfl, hMb⟩ := hcut
                clear c1 c2 f2 hrowc hcy HRow HM
                have cbI := hMb.rm.tm.cbI
                have cI : wc.cell? ⟨E.I, t, none⟩ = some (.int .i64 (st.idx t : Int)) := hMb.rm.tm.cI htn
                have cbO := hMb.rm.tm.cbO
                have cO : wc.cell? ⟨E.O, t, none⟩ = some (.bool (decide (t ∈ st.stk))) := hMb.rm.tm.cO htn
                have HMb := hide hMb
                clear hMb
                by_cases h0 : st.idx t = 0
                · obtain ⟨n1, n2, n3⟩ := step_new HR.out HT.out HP.out hec Ht.out h0
                  have cI0 : wc.cell? ⟨E.I, t, none⟩ = some (.int .i64 0) := by rw [cI, h0]; rfl
                  have hrl := HRm.out.le
                  have hsl := HT.out.stkLen
                  rw [← HN.out] at hrl hsl
                  have H19 := hide (visit19 HMb.out.rm.tm htn hbig (by show st.next ≤ 4096; omega) hsl)
                  have HN1 := hide n1
                  have HN2 := hide n2
                  have HRm2 : Hid (Room G (visitS (bumpS st m) t)) := Room.visit (st := bumpS st m) HRm.out n3 h0 HT.out.nx
                  have HV2 := hide (visited_on (st := bumpS st m) (t := t) HV.out HT.out.nx)
                  have HtN : Hid (t ∉ (bumpS st m).nodes) := fun e => HT.out.stkVis t (HT.out.ndStk t e) h0
                  clear h0 cI hrl hsl n1 n2 n3 cO
                  go_wp2_with fail
                  refine H19.out.mono ?_
                  rintro e w4 hv
                  obtain ⟨sv', hM'⟩ := HMb.out.rm.visit hv
                  have hpt := own_keep hv.kept HMb.out.pt (own_ne HMb.out.pt HMb.out.rm.tm.own (by decide))
                  have he := hv.res
                  subst he
                  have hnl : (bumpS st m).nodes.length = pl + 1 := by show st.nodes.length = _; rw [HP.out, List.length_append, HPL.out]; rfl
                  have hpt2 := hpt
                  rw [hnl] at hpt2
                  have HPt := hide hpt
                  have HM' := hide hM'
                  have HNL := hide hnl
                  have hwsz : E.B1 ≤ w4.heap.size := hM'.tm.sz
                  clear hpt hM' hv H19 cbI cI0 cbO hnl
                  go_wp2_with (at_builtin; refine wpList_append_own _ rfl (.tmp 87) (.tmp 91) 33 rfl E.B1 31 i31 (.agg #[.int .i64 0, .int .i64 0]) 2 16 Try.underlying33 hi31 hp0 hp1 hp2 rfl (by decide) (.slice (some ⟨g, 0, none⟩) (pl + 1) cap) (pl + 1) _ rfl (hpt2.alloc _) ⟨w4.heap.size, 0, none⟩ 1 1 [.int .i64 (t : Int), .int .i64 0] rfl rfl (cell_two_at _ _ _ _ _ rfl) (two_ints _ _) (by unfold maxLen; omega) (by omega) (by simp; omega) ?_; intro v5 w5 hown5 hgrow5 hnil5)
                  have hC5 := visit_push HM'.out HPt.out HtN.out (by rw [HNL.out]; exact hown5) hgrow5
                  clear hown5 hgrow5 hnil5 hpt2
                  go_roundg (meas G (visitS (bumpS st m) t))
                  case measure => rw [HGK.out]; exact HN2.out
                  case rel => exact ⟨_, sv', HN1.out, HRm2.out, hC5, HV2.out, rfl⟩
                · have h0' : ((st.idx t : Nat) : Int) ≠ 0 := by omega
                  have h0b := beq_f h0'
                  by_cases hs : t ∈ st.stk
                  · obtain ⟨n1, n2⟩ := step_on HT.out HP.out hec Ht.out hs
                    rw [decide_eq_true hs] at cO
                    have HN1 := hide n1
                    have HN2 := hide n2
                    have cbL := HMb.out.rm.tm.cbL
                    have cL : wc.cell? ⟨E.Lw, m, none⟩ = some (.int .i64 (st.low m : Int)) := HMb.out.rm.tm.cL hmn
                    have fL := HMb.out.rm.tm.fL m
                    clear n1 n2 hs h0
                    go_wp2
                    go_region
                    go_wp2
                    go_roundg (meas G (lowerS (bumpS st m) m (st.idx t)))
                    case measure => rw [HGK.out]; exact HN2.out
                    case rel => exact ⟨_, sv, HN1.out, HRm.out, (HMb.out.lower m (st.idx t) (z := min (st.low m : Int) (st.idx t : Int)) (by show min (st.low m : Int) (st.idx t : Int) = ((min (st.low m) (st.idx t) : Nat) : Int); omega)).drew, HV.out, rfl⟩
                  · obtain ⟨n1, n2⟩ := step_off HT.out HP.out hec Ht.out h0 hs
                    rw [decide_eq_false hs] at cO
                    have HN1 := hide n1
                    have HN2 := hide n2
                    clear n1 n2 hs h0
                    go_wp2
                    go_roundg (meas G (bumpS st m))
                    case measure => rw [HGK.out]; exact HN2.out
                    case rel => exact ⟨_, sv, HN1.out, HRm.out, HMb.out, HV.out, rfl⟩
            · have hee : st.ec m = (adj G m).length := by omega
              have HEE := hide hee
              have hei : ((st.ec m : Nat) : Int) = ((adj G m).length : Int) := by omega
              clear hee
              go_quiet (fail)
              go_upto_if 117 with fail
              clear HRow hrowc c1 c2 f2 hei
              go_cut [15] (fun s wc => CMem E n w (popS (lowPar st P m) P) sv u7 (.slice (some ⟨g, 0, none⟩) pl cap) wc)
              case first =>
                have hMp := (HM.out.drewN nq).pop HP.out (by rw [HPL.out]) (j := pl) HPL.out.symm
                rcases List.eq_nil_or_concat P with hPn | ⟨P', p, hPp⟩
                · have hk : pl = 0 := by rw [← HPL.out, hPn]; rfl
                  subst hk
                  have HMp : Hid (CMem E n w (popS (lowPar st P m) P) sv u7 (.slice (some ⟨g, 0, none⟩) 0 cap) (wr.drewN nq)) := by
                    show CMem E n w (popS (lowPar st P m) P) sv u7 (.slice (some ⟨g, 0, none⟩) 0 cap) (wr.drewN nq)
                    have e : lowPar st P m = st := by rw [hPn]; rfl
                    rw [e]; exact hMp
                  clear hMp hPn
                  go_wp2
                  go_meet
                  case rel => exact HMp.out
                · rw [List.concat_eq_append] at hPp
                  obtain ⟨k, hk'⟩ : ∃ k, k = P'.length := ⟨_, rfl⟩
                  have hk : pl = k + 1 := by rw [← HPL.out, hPp, hk']; simp
                  subst hk
                  obtain ⟨g', cap', hg', hcap', _, c3, _, _⟩ := CMem.top (P := P') (m := p) hMp hPp
                  have eg : g' = g := by
                    have := hg'
                    rw [Value.slice.injEq, Option.some.injEq, Addr.mk.injEq] at this
                    exact this.1.1.symm
                  subst eg
                  rw [← hk'] at c3
                  have hpn : p < n := by
                    rw [HN.out]
                    exact (HT.out.vis p (HT.out.stkVis p (HT.out.ndStk p (by rw [HP.out, hPp]; simp)))).1
                  have cbL := hMp.rm.tm.cbL
                  have cLp : (wr.drewN nq).cell? ⟨E.Lw, p, none⟩ = some (.int .i64 (st.low p : Int)) := hMp.rm.tm.cL hpn
                  have cLm : (wr.drewN nq).cell? ⟨E.Lw, m, none⟩ = some (.int .i64 (st.low m : Int)) := hMp.rm.tm.cL hmn
                  have fL := hMp.rm.tm.fL p
                  have HMp : Hid (CMem E n w (popS (lowPar st P m) P) sv u7 (.slice (some ⟨g', 0, none⟩) (k + 1) cap) ((wr.drewN nq).setCell ⟨E.Lw, p, none⟩ (.int .i64 (min (st.low p : Int) (st.low m : Int))))) := by
                    have e : popS (lowPar st P m) P = lowerS (popS st P) p (st.low m) := by
                      have : lowPar st P m = lowerS st p (st.low m) := by rw [hPp]; exact lowPar_snoc _ _ _ _
                      rw [this]; rfl
                    show CMem E n w (popS (lowPar st P m) P) sv u7 _ _
                    rw [e]
                    exact hMp.lower p (st.low m) (by show min (st.low p : Int) (st.low m : Int) = ((min (st.low p) (st.low m) : Nat) : Int); omega)
                  clear hMp hPp hg' hcap' hk'
                  generalize wr.drewN nq = wz at *
                  go_wp2
                  go_region
                  go_wp2
                  go_meet
                  case rel => exact HMp.out.drew
              case rest =>
                clear HM
                obtain ⟨f1, f2, f3, f4, f5, f6⟩ := lowPar_facts st P m
                obtain ⟨p1, p2, p3⟩ := lowPar_inv HT.out HP.out
                have cbL := hcut.rm.tm.cbL
                have cbI := hcut.rm.tm.cbI
                have cL : wc.cell? ⟨E.Lw, m, none⟩ = some (.int .i64 (st.low m : Int)) := by
                  have := hcut.rm.tm.cL hmn
                  rw [show (popS (lowPar st P m) P).low m = (lowPar st P m).low m from rfl, p2] at this
                  exact this
                have cI : wc.cell? ⟨E.I, m, none⟩ = some (.int .i64 (st.idx m : Int)) := by
                  have := hcut.rm.tm.cI hmn
                  rw [show (popS (lowPar st P m) P).idx m = (lowPar st P m).idx m from rfl, f1] at this
                  exact this
                have HC := hide hcut
                have HV2 : Hid (∀ v, v < i + 1 → (lowPar st P m).idx v ≠ 0) := by rw [f1]; exact HV.out
                have HRm2 : Hid (Room G (lowPar st P m)) := by
                  show (lowPar st P m).next + Wt G.length (fun _ => 1) (lowPar st P m).idx ≤ G.length + 1
                  rw [f1, f6]; exact HRm.out
                have HF3 := hide f3
                have HF5 := hide f5
                clear f1 f2 f3 f4 f5 f6 p1 p2 p3 hcut
                by_cases heq : st.low m = st.idx m
                · have heqi : ((st.low m : Nat) : Int) = ((st.idx m : Nat) : Int) := by omega
                  have hb := bne_f heqi
                  have HEq := hide heq
                  clear heq
                  obtain ⟨S1, S2, hS⟩ := split_at HT.out HP.out
                  have HS := hide hS
                  clear hS heqi
                  go_wp2
                  go_quiet (fail)
                  have hP0 := (HC.out.drewN nq).start
                  have hstk : (popS (lowPar st P m) P).stk = S1 ++ m :: S2 := by show (lowPar st P m).stk = _; rw [HF3.out, HS.out]
                  rw [hstk] at hP0
                  have HR0 : Hid (PopRel E n w (popS (lowPar st P m) P) (wc.drewN nq).heap.size u7 (.slice (some ⟨g, 0, none⟩) pl cap) S1 S2 m (S2.length + 1) (.slice none 0 0) (wc.drewN nq)) := ⟨S2, [], sv, by simp, rfl, hP0⟩
                  generalize (wc.drewN nq).heap.size = Bc at HR0
                  have hcl : (popS (lowPar st P m) P).comps.length ≤ n := by
                    show (lowPar st P m).comps.length ≤ n
                    rw [HF5.out, HN.out]; exact HT.out.compsLen
                  clear hP0 hstk HF3 HF5 cbL cbI cL cI HC hb
                  go_wp2
                  go_loopg [16] (S2.length + 1) (fun gk xv wx => PopRel E n w (popS (lowPar st P m) P) Bc u7 (.slice (some ⟨g, 0, none⟩) pl cap) S1 S2 m gk xv wx)
                  case atStart => exact HR0.out
                  case round =>
                    clear HR0
                    obtain ⟨R, C, sv2, hR, hgk3, hPM⟩ := hrel
                    obtain ⟨k1, k2, k3⟩ := pop_facts HT.out HS.out hR
                    rw [← HN.out] at k1
                    have HPM := hide hPM
                    have HR1 := hide hR
                    have HGK3 := hide hgk3
                    clear hPM hR hgk3
                    obtain ⟨o1, o2, o3, o4, o5, o6, o7, o8, o9⟩ := HPM.out.tm.ok
                    have nSbO : E.bS ≠ E.bO := by omega
                    have nbOS : E.bO ≠ E.bS := by omega
                    have nSO : E.bS ≠ E.O := by omega
                    have nOS : E.O ≠ E.bS := by omega
                    clear o1 o2 o3 o4 o5 o6 o7 o8 o9
                    rcases List.eq_nil_or_concat R with hRn | ⟨R', x, hRx⟩
                    · have hS' : S1 ++ m :: R = S1 ++ [m] := by rw [hRn]
                      obtain ⟨j1, j2⟩ := k2 S1 m hS'
                      obtain ⟨gs, scap, hsv2, hscap, cx⟩ := HPM.out.last hS'
                      subst hsv2
                      have hPT := HPM.out.take hS' j1 rfl rfl
                      have cbS := HPM.out.tm.cbS
                      have fbS := HPM.out.tm.fbS
                      have cbO := HPM.out.tm.cbO
                      have cO := HPM.out.tm.cO hmn
                      have fO := HPM.out.tm.fO m
                      have hCS : C = S2.reverse := by
                        have := HR1.out
                        rw [hRn] at this
                        rw [this]; simp
                      have HCS := hide hCS
                      have htl : S1.length + 1 ≤ n := by
                        have h1 := HT.out.stkLen
                        rw [HS.out, ← HN.out] at h1
                        simp at h1
                        omega
                      generalize S1.length = tl at *
                      have hxmm := hPT.xm
                      have hBc : Bc ≤ wr.heap.size := HPM.out.b2
                      have HPT := hide hPT
                      clear hPT hRn hS' j1 j2 k2 k3 hCS
                      go_wp2_with (at_builtin; refine wpList_append_own _ rfl (.tmp 160) (.tmp 162) 26 rfl Bc 3 i3 (.int .i64 0) 1 8 Try.underlying26 hi3 hy0 hy1 hy2 rfl (by decide) u16 _ _ rfl (hxmm.alloc _) ⟨wr.heap.size, 0, none⟩ 1 1 [.int .i64 (m : Int)] rfl rfl (cell_one_at _ _ _ _ (by rw [size_setCell, size_setCell])) (one_int _) (by unfold maxLen; omega) (by omega) (by simp; omega) ?_; intro v5 w5 hown5 hgrow5 hnil5; obtain ⟨sa, sn, sc, hv5⟩ := own_slice hown5; subst hv5; have HP5 := hide (HPT.out.pushed hown5 hgrow5); clear hown5 hgrow5 hnil5 hxmm)
                      refine (sort20 HP5.out.xm (by simp) (by simp; omega)).mono ?_
                      rintro e w6 hs20
                      obtain ⟨c', hp', hsd', ho'⟩ := hs20.mem
                      have he := hs20.res
                      subst he
                      have hP6 := HP5.out.xgrown hs20.gr ho'
                      obtain ⟨rvs, r1, r2, r3, r4⟩ := hP6.cm
                      have hone := own_one hP6.xm
                      have hsz6 : E.B1 ≤ w6.heap.size := hP6.tm.sz
                      rw [HCS.out] at hp'
                      obtain ⟨n1, n2⟩ := step_close HT.out HP.out HS.out HEE.out HEq.out hp' hsd'
                      have HN1 := hide n1
                      have HN2 := hide n2
                      have HP6 := hide hP6
                      have HR2 := hide r2
                      have HR3 := hide r3
                      clear hP6 n1 n2 r2 r3 r4 hs20 hp' hsd' ho' cx cbS fbS cbO cO fO
                      go_wp2_with (at_builtin; refine wpList_append_own _ rfl (.tmp 169) (.tmp 171) 22 rfl E.B1 26 i26 (.slice none 0 0) 1 24 Try.underlying22 hi26 hx0 hx1 hx2 rfl (by decide) u7 _ _ rfl (r1.alloc _) ⟨w6.heap.size, 0, none⟩ 1 1 [.slice sa sn sc] rfl rfl (cell_one_at _ _ _ _ rfl) hone (by unfold maxLen; omega) (by omega) (by simp; omega) ?_; intro v7 w7 hown7 hgrow7 hnil7)
                      have hC7 := HP6.out.close rfl ⟨rvs, r1, HR2.out, HR3.out, hown7⟩ hgrow7
                      clear hown7 hgrow7 hnil7 r1 hone
                      go_roundg (meas G (closeS (lowPar st P m) P S1 c'))
                      case measure => rw [HGK.out]; exact HN2.out
                      case rel => exact ⟨_, _, HN1.out, HRm2.out, hC7, HV2.out, rfl⟩
                    · rw [List.concat_eq_append] at hRx
                      have hS' : S1 ++ m :: R = (S1 ++ m :: R') ++ [x] := by rw [hRx]; simp
                      obtain ⟨j1, j2⟩ := k2 _ x hS'
                      have hxm := k3 R' x hRx
                      have hxm2 : ((x : Nat) : Int) ≠ ((m : Nat) : Int) := by omega
                      have hxb := beq_f hxm2
                      have hxn : x < n := by rw [HN.out]; exact j2
                      obtain ⟨gs, scap, hsv2, hscap, cx⟩ := HPM.out.last hS'
                      subst hsv2
                      have hPT := HPM.out.take hS' j1 rfl rfl
                      have cbS := HPM.out.tm.cbS
                      have fbS := HPM.out.tm.fbS
                      have cbO := HPM.out.tm.cbO
                      have cO := HPM.out.tm.cO hxn
                      have fO := HPM.out.tm.fO x
                      have HRx := hide hRx
                      have htl : (S1 ++ m :: R').length + 1 ≤ n := by
                        have h1 := HT.out.stkLen
                        rw [HS.out, HR1.out, hRx, ← HN.out] at h1
                        simp at h1 ⊢
                        omega
                      generalize (S1 ++ m :: R').length = tl at *
                      have hxmm := hPT.xm
                      have hBc : Bc ≤ wr.heap.size := HPM.out.b2
                      have HPT := hide hPT
                      clear hPT hRx hS' j1 j2 hxm hxm2 k2 k3
                      go_wp2_with (at_builtin; refine wpList_append_own _ rfl (.tmp 160) (.tmp 162) 26 rfl Bc 3 i3 (.int .i64 0) 1 8 Try.underlying26 hi3 hy0 hy1 hy2 rfl (by decide) u16 _ _ rfl (hxmm.alloc _) ⟨wr.heap.size, 0, none⟩ 1 1 [.int .i64 (x : Int)] rfl rfl (cell_one_at _ _ _ _ (by rw [size_setCell, size_setCell])) (one_int _) (by unfold maxLen; omega) (by omega) (by simp; omega) ?_; intro v5 w5 hown5 hgrow5 hnil5)
                      have hP5 := HPT.out.pushed hown5 hgrow5
                      clear hown5 hgrow5 hnil5 hxmm
                      go_roundg (R'.length + 1)
                      case measure => rw [HGK3.out, HRx.out, List.length_append]; simp
                      case rel => exact ⟨R', C ++ [x], _, by rw [HR1.out, HRx.out]; simp, rfl, hP5⟩
                · have heqi : ((st.low m : Nat) : Int) ≠ ((st.idx m : Nat) : Int) := by omega
                  have hb := bne_t heqi
                  obtain ⟨n1, n2⟩ := step_stay HT.out HP.out HEE.out heq
                  have HN1 := hide n1
                  have HN2 := hide n2
                  clear heq n1 n2
                  go_wp2
                  go_quiet (fail)
                  go_wp2
                  go_roundg (meas G (popS (lowPar st P m) P))
                  case measure => rw [HGK.out]; exact HN2.out
                  case rel => exact ⟨_, sv, HN1.out, HRm2.out, HC.out.drewN _, HV2.out, rfl⟩
      · have h0' : ((st.idx i : Nat) : Int) ≠ 0 := by omega
        have h0b := bne_t h0'
        have HV2 : Hid (∀ v, v < i + 1 → st.idx v ≠ 0) := fun v hv => by
          by_cases e : v = i
          · subst e; exact h0
          · exact HV.out v (by omega)
        clear h0
        go_wp2
        go_roundg (n - (i + 1))
        case measure => omega
        case rel => exact ⟨i + 1, rfl, by omega, by go_num, st, sv, HT.out, HRm.out, HNd.out, HM.out, HV2.out⟩
    · have hii : i = n := by omega
      obtain ⟨st, sv, hT, hRm, hnd, hM, hvis⟩ := HRel.out
      obtain ⟨rvs, r1, r2, r3, r4⟩ := hM.cm
      have hcl := hT.compsLen
      have H21 := hide (sort21 r1 r2 (fun c hc => ⟨(hT.cls c hc).ne_nil, by have := class_len (hT.cls c hc); rw [← HN.out] at this; omega, fun x hx => by
        obtain ⟨_, j, hj, hm⟩ := hT.cls c hc
        have := ((hm x).1 hx).1
        rw [← HN.out] at this; omega⟩) (by rw [← HN.out] at hcl; omega))
      have HT := hide hT
      have HNd := hide hnd
      have HM := hide hM
      have HV := hide hvis
      have HI := hide hii
      have HR1 := hide r1
      clear hT hRm hnd hM hvis r1 r2 r3 r4 hcl HRel
      go_wp2_with fail
      refine H21.out.mono ?_
      rintro e w9 hs
      have he := hs.res
      subst he
      have HS := hide hs
      clear hs
      go_wp2
      go_ret
      obtain ⟨L', rvs', l1, l2, l3, l4⟩ := HS.out.mem
      obtain ⟨o1, o2, o3, o4, o5, o6, o7, o8, o9⟩ := HM.out.tm.ok
      have hC : IsComps G L' := comps_of_end HT.out HNd.out (fun v hv => HV.out v (by rw [HI.out, HN.out]; exact hv)) l1 l2
      refine ⟨⟨_, L', rfl, hC, rows_graph l3 l4 (fun c hc => ?_) ?_⟩, HM.out.tm.bel.grown HS.out.gr HM.out.tm.bel.size (fun b hb => ?_)⟩
      · have := class_len (hC.cls c hc)
        rw [← HN.out] at this
        unfold maxLen; omega
      · have h1 := l1.length_eq
        have h2 := HT.out.compsLen
        rw [← HN.out] at h2
        unfold maxLen; omega
      · have := (HR1.out.lt b hb).1
        omega
end Go.Proofs.Qxb6603343a
