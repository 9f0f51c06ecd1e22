/-
  LawS4802AModel: its walk, where no list is longer than 1024.
-/
import Derived.Test.YbulkcuksSteps
import Derived.BigQuiet
import Derived.Deep.RegionHeld3
namespace Go.Proofs.Ybulkcuks
open Go.RowKit Go.Shelf

set_option maxHeartbeats 40000000 in
set_option maxRecDepth 100000 in
theorem law_in (a0 a1 : Option Addr) (n cap0 m cap1 : Nat) (xs ys : List Nat) (w : World) (h0 : Row16 w w.heap.size a0 n xs) (h1 : Row16 w w.heap.size a1 m ys) (hn : n ≤ 1024) (hm : m ≤ 1024) :
    Calls Yba.prog 3 #[.slice a0 n cap0, .slice a1 m cap1] w fun e w' => e = .returned (.bool true) ∧ Below w.heap.size w w' := by
  have e2 : ¬ (1024 : Int) < n := by omega
  have e3 : ¬ (1024 : Int) < m := by omega
  have HR := hid (And.intro h0 h1)
  clear h0 h1
  have HI := hid (new_calls w)
  go_enter Yba.func3, Yba.ntmps3
  go_wp2_with (fail)
  refine HI.out.mono ?_
  rintro e u ⟨rfl, hc, hBu, hus⟩
  have HV := hid (law_new hc (by omega) (by omega) (by omega) (by omega) (by omega) (by omega) (by omega) (by omega) hBu)
  clear hc hBu HI
  go_wp2_with (fail)
  obtain ⟨V, hV⟩ : ∃ V, V = V0 u (w.heap.size + 1) := ⟨_, rfl⟩
  change Code.wp _ _ _ _ (V0 u (w.heap.size + 1))
  rw [← hV] at HV ⊢
  clear hV
  obtain ⟨b, hb⟩ : ∃ b, b = w.heap.size := ⟨_, rfl⟩
  rw [← hb] at hus
  have hVs : V.heap.size = b + 8 := by have := HV.out.2.2.2.2.2; omega
  rw [hus, ← hb] at HV
  rw [← hb] at HR
  have hrew : w.heap.size + 1 = b + 1 := by omega
  simp only [← hb, Nat.add_assoc, Nat.reduceAdd]
  have HV' : Hid (PgS V (b + 4) (b + 1) b (b + 3) (b + 2) (b + 5) [] noPg noPg noPg 0 ∧ WAt V (b + 5) noPg ∧ WAt V (b + 6) noPg ∧ WAt V (b + 7) noPg ∧ Below b w V) := hid (by
    obtain ⟨q1, q2, q3, q4, q5, _⟩ := HV.out
    exact ⟨q1, q2, q3, q4, q5⟩)
  have HB := hid hb
  clear HV hrew hus u hb
  go_loopw [46] (fun c wr => ∃ (k : Nat) (own : List Nat), k ≤ m ∧ c = .int .i64 k ∧ PgS wr (b + 4) (b + 1) b (b + 3) (b + 2) (b + 5) own noPg noPg (adds noPg (ids (ys.take k))) 0 ∧ (∀ x ∈ own, b + 8 ≤ x) ∧ WAt wr (b + 5) (adds noPg (ids (ys.take k))) ∧ Ux V wr [b + 4, b + 5])
    (fun c _ => m - (intOf c).toNat)
  case atStart =>
    obtain ⟨q1, q2, _⟩ := HV'.out
    refine ⟨0, [], Nat.zero_le _, rfl, ?_, (fun x hx => by cases hx), ?_, Ux.refl _ _⟩
    · rw [List.take_zero]; show PgS _ _ _ _ _ _ _ _ _ _ (adds _ []) _; rw [adds_nil]; exact q1
    · rw [List.take_zero]; show WAt _ _ (adds _ []); rw [adds_nil]; exact q2
  case round =>
    obtain ⟨k, own, hk, rfl, hP, hqo, hwt, hU⟩ := hrel
    by_cases hlt : k < m
    · obtain ⟨hy16, p, ha, hpb, hcell⟩ := HR.out.2.at hlt
      subst ha
      have hyl : ys.length = m := HR.out.2.1
      have HT : Hid (ids (ys.take (k + 1)) = ids (ys.take k) ++ [ys.getD k 0 % 512]) := ids_take ys k (by omega)
      have hBr : Below b w wr := HV'.out.2.2.2.2.trans (hU.below (by omega) (by intro x hx; simp at hx; omega))
      have ec : wr.cell? (p.add k) = some (.int .u16 (ys.getD k 0 : Nat)) := (hBr.cell (p := p.add k) (by rw [add_block]; exact hpb)).trans hcell
      generalize ys.getD k 0 = y at hy16 ec HT
      have hy4 : y % 512 < 512 := Nat.mod_lt _ (by decide)
      have hsU := hU.size
      have HA := hid (fset_calls wr (b + 4) (b + 1) b (b + 3) (b + 2) (b + 5) (y % 512) own _ _ _ 0 hP (by omega))
      have HQ := hid (And.intro hqo (And.intro hwt hU))
      have hkm : (k : Int) < m := by omega
      clear hP hqo hwt hU hyl hcell hBr hpb
      go_wp2_with fail
      rw [show ((y : Int) % 512) = ((y % 512 : Nat) : Int) by omega]
      refine HA.out.mono ?_
      rintro e W3 ⟨rfl, own', hP', ho', hU'⟩
      obtain ⟨hqo, hwt, hU⟩ := HQ.out
      obtain ⟨ew, ez, q1, q2, q3, q4⟩ := fresh_step (V := V) hP' hwt (by rw [hVs]; exact hqo) ho' hU hU' (by omega) (by omega) (Nat.le_refl _) hy4
      rw [hVs] at q2
      have HE := hid (And.intro q1 (And.intro q2 (And.intro q3 q4)))
      clear hP' ho' hU' hqo hwt hU q1 q2 q3 q4
      go_wp2
      go_roundw
      case rel =>
        obtain ⟨q1, q2, q3, q4⟩ := HE.out
        refine ⟨k + 1, own', by omega, by go_num, by rw [HT.out, adds_snoc]; exact q1, q2, by rw [HT.out, adds_snoc]; exact q3, q4⟩
      case measure => simp [intOf]; omega
    · have hk2 : k = m := by omega
      subst hk2
      have htk : ys.take k = ys := List.take_of_length_le (by have := HR.out.2.1; omega)
      rw [htk] at hP hwt
      have hs1 := hU.size
      have H1 := hid (And.intro hP (And.intro hqo (And.intro hwt hU)))
      clear hP hqo hwt hU htk
      rename World => V1
      have hmk := make_list n (by omega)
      go_wp2
      obtain ⟨R0, hR0⟩ : ∃ R0, R0 = adds noPg (ids ys) := ⟨_, rfl⟩
      rw [← hR0] at H1
      clear hR0 hmk
      obtain ⟨V2, hV2⟩ : ∃ V2, V2 = V1.alloc (.cells (lrow n) 67) := ⟨_, rfl⟩
      have hB2 : Below V1.heap.size V1 V2 := by rw [hV2]; exact (Below.refl _ _).alloc (Nat.le_refl _) _
      have hl0 : LAt V2 V1.heap.size n [] := by rw [hV2]; exact LAt.new V1 n
      have hs2 : V2.heap.size = V1.heap.size + 1 := by rw [hV2]; simp
      rw [← hV2]
      have H2 : Hid (PgS V2 (b + 4) (b + 1) b (b + 3) (b + 2) (b + 5) own noPg noPg R0 0 ∧ (∀ x ∈ own, b + 8 ≤ x ∧ x < V1.heap.size) ∧ WAt V2 (b + 5) R0 ∧ WAt V2 (b + 6) noPg ∧ WAt V2 (b + 7) noPg ∧ LAt V2 V1.heap.size n [] ∧ Below b w V2) := hid (by
        obtain ⟨q1, q2, q3, q4⟩ := H1.out
        obtain ⟨_, _, p2, p3, p4⟩ := HV'.out
        refine ⟨q1.below hB2, fun x hx => ⟨q2 x hx, (q1.olt.1 x hx).1⟩, q3.below hB2, (p2.keep (q4.block _ (by omega) (by simp))).below hB2, (p3.keep (q4.block _ (by omega) (by simp))).below hB2, hl0, (p4.trans (q4.below (by omega) (by intro x hx; simp at hx; omega))).trans (hB2.mono (by omega))⟩)
      have hlbb : b + 8 ≤ V1.heap.size := by omega
      clear hV2 hB2 hl0 H1 HV' hVs
      generalize hlb : V1.heap.size = lb at *
      clear hlb V1
      go_loopw [66] (fun c wr => ∃ (j : Nat), j ≤ n ∧ c = .int .i64 j ∧ LAt wr lb n (ids (xs.take j)) ∧ Ux V2 wr [lb])
        (fun c _ => n - (intOf c).toNat)
      case atStart =>
        exact ⟨0, Nat.zero_le _, rfl, by rw [List.take_zero]; exact H2.out.2.2.2.2.2.1, Ux.refl _ _⟩
      case round =>
        obtain ⟨j, hj, rfl, hL, hU⟩ := hrel
        by_cases hlt2 : j < n
        · obtain ⟨hy16, p, ha, hpb, hcell⟩ := HR.out.1.at hlt2
          subst ha
          have hxl : xs.length = n := HR.out.1.1
          have HT : Hid (ids (xs.take (j + 1)) = ids (xs.take j) ++ [xs.getD j 0 % 512]) := ids_take xs j (by omega)
          have hidl : (ids (xs.take j)).length = j := by rw [ids_length, List.length_take]; omega
          have hBr : Below b w wr := H2.out.2.2.2.2.2.2.trans (hU.below (by omega) (by intro x hx; simp at hx; omega))
          have ec : wr.cell? (p.add j) = some (.int .u16 (xs.getD j 0 : Nat)) := (hBr.cell (p := p.add j) (by rw [add_block]; exact hpb)).trans hcell
          generalize xs.getD j 0 = y at hy16 ec HT
          have hy4 : y % 512 < 512 := Nat.mod_lt _ (by decide)
          obtain ⟨v0, ev⟩ := Option.isSome_iff_exists.1 (hL.there j hlt2)
          have ez := hL.frz j
          have hjn : (j : Int) < n := by omega
          have HQ := hid (And.intro hL (And.intro hU hidl))
          clear hL hU hxl hcell hBr hpb hidl
          go_wp2
          go_roundw
          case rel =>
            obtain ⟨hL, hU, hidl⟩ := HQ.out
            rw [show ((y : Int) % 512) = ((y % 512 : Nat) : Int) by omega]
            refine ⟨j + 1, by omega, by go_num, by rw [HT.out]; exact hL.set hidl.symm hlt2, hU.set _ (by simp)⟩
          case measure => simp [intOf]; omega
        · have hj2 : j = n := by omega
          subst hj2
          have htk : xs.take j = xs := List.take_of_length_le (by have := HR.out.1.1; omega)
          rw [htk] at hL
          rename World => V3
          have hln : (ids xs).length = j := by rw [ids_length]; exact HR.out.1.1
          have hll := ids_lt xs
          generalize ids xs = L at hL hln hll
          subst hln
          have hs3 := hU.size
          have H3 : Hid (PgS V3 (b + 4) (b + 1) b (b + 3) (b + 2) (b + 5) own noPg noPg R0 0 ∧ (∀ x ∈ own, b + 8 ≤ x ∧ x < lb) ∧ Tb V3 (b + 5) (b + 6) (b + 7) (st R0 []) ∧ LAt V3 lb L.length L ∧ Below b w V3 ∧ ∀ x ∈ L, x < 512) := hid (by
            obtain ⟨q1, q2, q3, q4, q5, _, q7⟩ := H2.out
            refine ⟨q1.ux hU (fun x hx => by simp at hx; subst hx; exact ⟨by omega, fun hm => by have := (q2 _ hm).2; omega⟩), q2, ⟨?_, ?_, ?_⟩, hL, q7.trans (hU.below (by omega) (by intro x hx; simp at hx; omega)), hll⟩
            · exact q3.keep (hU.block _ (by omega) (by simp; omega))
            · exact q4.keep (hU.block _ (by omega) (by simp; omega))
            · exact q5.keep (hU.block _ (by omega) (by simp; omega)))
          clear hL hU htk hll H2
          go_wp2
          go_loopw [80] (fun c wr => ∃ (i : Nat), i ≤ L.length ∧ c = .int .i64 i ∧ Tb wr (b + 5) (b + 6) (b + 7) (st R0 (L.take i)) ∧ Ux V3 wr [b + 5, b + 6, b + 7])
            (fun c _ => L.length - (intOf c).toNat)
          case atStart =>
            exact ⟨0, Nat.zero_le _, rfl, by rw [List.take_zero]; exact H3.out.2.2.1, Ux.refl _ _⟩
          case round =>
            obtain ⟨i, hi, rfl, hT, hU⟩ := hrel
            by_cases hlt3 : i < L.length
            · have ec : wr.cell? ⟨lb, i, none⟩ = some (.int .u32 (L.getD i 0 : Nat)) := (World.cell?_of_block (a := ⟨lb, i, none⟩) (hU.block lb (by omega) (by simp; omega))).trans (H3.out.2.2.2.1.val i hlt3)
              have hx5 : L.getD i 0 < 512 := by
                rw [List.getD_eq_getElem?_getD, List.getElem?_eq_getElem hlt3]
                exact H3.out.2.2.2.2.2 _ (List.getElem_mem _)
              have HT : Hid (st R0 (L.take (i + 1)) = stp (st R0 (L.take i)) (L.getD i 0)) := by
                rw [← st_snoc, List.take_succ_eq_append_getElem hlt3, List.getD_eq_getElem?_getD, List.getElem?_eq_getElem hlt3]
                rfl
              generalize L.getD i 0 = x at ec hx5 HT
              have hx5i : (x : Int) < 512 := by omega
              have c1 := hT.t1.cell x hx5
              have z1 := hT.t1.frz x
              have c2 := hT.t2.cell x hx5
              have z2 := hT.t2.frz x
              have c3 := hT.t3.cell x hx5
              have z3 := hT.t3.frz x
              have hin : (i : Int) < L.length := by omega
              have HQ := hid (And.intro hT hU)
              clear hT hU
              cases hf : (st R0 (L.take i)).2.2 x with
              | true =>
                rw [hf] at c1
                go_wp2
                go_roundw
                case rel =>
                  obtain ⟨hT, hU⟩ := HQ.out
                  exact ⟨i + 1, by omega, by go_num, by rw [HT.out]; exact hT.fresh hf hx5 (by omega) (by omega) (by omega), (hU.set _ (by simp)).set _ (by simp)⟩
                case measure => simp [intOf]; omega
              | false =>
                rw [hf] at c1
                go_wp2
                go_roundw
                case rel =>
                  obtain ⟨hT, hU⟩ := HQ.out
                  exact ⟨i + 1, by omega, by go_num, by rw [HT.out]; exact hT.other hf hx5 (by omega) (by omega), hU.set _ (by simp)⟩
                case measure => simp [intOf]; omega
            · have hi2 : i = L.length := by omega
              subst hi2
              rw [List.take_length] at hT
              rename World => V4
              have hs4 := hU.size
              have H4 : Hid (PgS V4 (b + 4) (b + 1) b (b + 3) (b + 2) (b + 5) own noPg noPg R0 0 ∧ (∀ x ∈ own, b + 8 ≤ x ∧ x < lb) ∧ Tb V4 (b + 5) (b + 6) (b + 7) (st R0 L) ∧ LAt V4 lb L.length L ∧ Below b w V4 ∧ ∀ x ∈ L, x < 512) := hid (by
                obtain ⟨q1, q2, q3, q4, q5, q6⟩ := H3.out
                refine ⟨q1.ux hU (fun x hx => by simp at hx; exact ⟨by omega, fun hm => by have := (q2 _ hm).1; omega⟩), q2, hT, q4.keep (hU.block _ (by omega) (by simp; omega)), q5.trans (hU.below (by omega) (by intro x hx; simp at hx; omega)), q6⟩)
              clear hT hU H3
              go_wp2_with fail
              have hlb4 : lb < V4.heap.size := by omega
              have HAS := hid (all_state H4.out.1 H4.out.2.2.2.1 hlb4 (by omega) (fun hm => by have := (H4.out.2.1 _ hm).2; omega) hn H4.out.2.2.2.2.2)
              have HAC := hid (all_calls _ _ _ _ _ _ _ _ _ _ _ _ _ _ HAS.out)
              clear HAS
              refine (seq_calls _ lb L.length V4.heap.size).mono ?_
              rintro e W5 ⟨rfl, rfl⟩
              go_wp2_with fail
              simp only [Nat.add_assoc, Nat.reduceAdd]
              refine HAC.out.mono ?_
              rintro e W6 ⟨rfl, hLg, hG⟩
              have HF := hid (law_fin (w := w) H4.out.1 H4.out.2.2.1 (by rw [← HB.out]; exact H4.out.2.2.2.2.1) hlb4 hLg hG (Nat.le_refl _) (by omega) (by omega) (fun hm => by have := (H4.out.2.1 _ hm).1; omega) (fun hm => by have := (H4.out.2.1 _ hm).1; omega) (fun hm => by have := (H4.out.2.1 _ hm).1; omega) (by rw [← HB.out]; omega) (by rw [← HB.out]; exact Nat.le_refl _))
              have hll := H4.out.2.2.2.2.2
              have HL := hid hll
              clear hLg hG HAC H4 hll hlb4 HR
              generalize V4.heap.size = gb at *
              clear V4
              obtain ⟨la, lcap, lc, hlg⟩ := HF.out.log
              have HG := hid hlg
              clear hlg
              have hne : ((L.length : Int) == (L.length : Int)) = true := by simp
              go_wp2_with fail
              go_loopw [105] (fun c wr => ∃ (i : Nat), i ≤ L.length ∧ c = .int .i64 i ∧ Below W6.heap.size W6 wr) (fun c _ => L.length - (intOf c).toNat)
              case atStart => exact ⟨0, Nat.zero_le _, rfl, Below.refl _ _⟩
              case round =>
                obtain ⟨i, hi, rfl, hBr⟩ := hrel
                by_cases hlt4 : i < L.length
                · obtain ⟨g, hla, hgl, hgc⟩ := HG.out i hlt4
                  subst hla
                  have k1 := (hBr.cell (p := ⟨gb, 0, none⟩) HF.out.gbl).trans lc
                  have k2 := (hBr.cell (p := ⟨g, i, none⟩) hgl).trans hgc
                  have k3 := (hBr.cell (p := ⟨lb, i, none⟩) HF.out.lsl).trans (HF.out.row i hlt4)
                  generalize L.getD i 0 = x at k2 k3
                  have hin : (i : Int) < L.length := by omega
                  have HQ := hid hBr
                  clear hBr
                  go_wp2_with fail
                  go_quiet (fail)
                  go_wp2
                  go_roundw
                  case rel => exact ⟨i + 1, by omega, by go_num, HQ.out.os, HQ.out.tape, HQ.out.output, HQ.out.size, HQ.out.block⟩
                  case measure => simp [intOf]; omega
                · have hi4 : i = L.length := by omega
                  subst hi4
                  have HF7 := hid (HF.out.below hBr)
                  clear hBr HF HG lc
                  rename World => W7
                  obtain ⟨own7, hP7⟩ := HF7.out.pg
                  obtain ⟨ep, hep⟩ : ∃ ep : Int, ep = if L.length = 0 then 0 else 1 := ⟨_, rfl⟩
                  rw [← hep] at hP7
                  have HP7 := hid hP7
                  obtain ⟨o1, o2, o3, hp7, _⟩ := hP7
                  have c0 := hp7.cache.c0
                  have HE := hid (load_calls b 36 ep W7 hp7.cache.epc)
                  clear hp7
                  have hcase : (¬ (0 : Int) < (L.length : Int) ∧ ep = 0) ∨ ((0 : Int) < (L.length : Int) ∧ ep = 1) := by
                    by_cases hz : L.length = 0
                    · rw [if_pos hz] at hep; left; exact ⟨by omega, hep⟩
                    · rw [if_neg hz] at hep; right; exact ⟨by omega, hep⟩
                  clear hep
                  go_upto_if 120 with fail
                  go_cut [20] (fun t wc => t = .int .u64 ep ∧ wc = W7)
                  case first =>
                    rcases hcase with ⟨hz, rfl⟩ | ⟨hz, rfl⟩
                    all_goals (go_wp2; go_meet; exact ⟨rfl, rfl⟩)
                  case rest =>
                    obtain ⟨rfl, rfl⟩ := hcut
                    clear hcase
                    go_wp2_with fail
                    refine HE.out.mono ?_
                    rintro e W8 ⟨rfl, rfl⟩
                    clear HE c0
                    go_wp2
                    rename World => W8
                    go_loopw [23, 21, 22] (fun c f p wr => ∃ (i : Nat), i ≤ 512 ∧ c = .int .i64 i ∧ f = .int .i64 (countTo (st R0 L).1 i : Nat) ∧ p = .int .i64 (countTo (st R0 L).2.1 i : Nat) ∧ Below W8.heap.size W8 wr) (fun c _ _ _ => 512 - (intOf c).toNat)
                    case atStart => exact ⟨0, Nat.zero_le _, rfl, rfl, rfl, Below.refl _ _⟩
                    case round =>
                      obtain ⟨i, hi, rfl, rfl, rfl, hBr⟩ := hrel
                      by_cases hlt5 : i < 512
                      · have hi5 : (i : Int) < 512 := by omega
                        have hFr := HF7.out.below hBr
                        obtain ⟨ow, o1, o2, o3, hp, _⟩ := hFr.pg
                        obtain ⟨f, ws, v, hB, hM, _⟩ := hp.fresh
                        have e0 := hB.c0
                        have e1 := hB.c1
                        have t1 := hFr.tbl.t1.cell i hlt5
                        have t2 := hFr.tbl.t2.cell i hlt5
                        have t3 := hFr.tbl.t3.cell i hlt5
                        have hb4 : b + 4 < wr.heap.size := hB.blt
                        have hb5 : b + 5 < wr.heap.size := hFr.tbl.t1.lt
                        have hb6 : b + 6 < wr.heap.size := hFr.tbl.t2.lt
                        have hb7 : b + 7 < wr.heap.size := hFr.tbl.t3.lt
                        have H9 := hid (fun (W : World) (hW : Below wr.heap.size wr W) => by
                          have q := has_any f i (b + 5) v ws W (hB.below hW).own hB.lt (by have := hB.bd; omega) (by omega)
                          rw [hM i] at q
                          exact q)
                        have HA := hid (fun (W : World) (hW : Below wr.heap.size wr W) => phas_calls W (b + 4) 9 (b + 5) i _ _ (hp.below hW).free (by omega))
                        have HC := hid (fun (W : World) (hW : Below wr.heap.size wr W) => phas_calls W (b + 4) 15 (b + 5) i _ _ (hp.below hW).pend (by omega))
                        have HN : Hid (countTo (st R0 L).1 (i + 1) = countTo (st R0 L).1 i + (if (st R0 L).1 i then 1 else 0) ∧ countTo (st R0 L).2.1 (i + 1) = countTo (st R0 L).2.1 i + (if (st R0 L).2.1 i then 1 else 0)) := ⟨rfl, rfl⟩
                        have cl1 := countTo_le (st R0 L).1 i
                        have cl2 := countTo_le (st R0 L).2.1 i
                        have HQ := hid hBr
                        clear hFr hp hB hM hBr
                        generalize (st R0 L).2.2 i = ri at *
                        generalize (st R0 L).1 i = fi at *
                        generalize (st R0 L).2.1 i = pi at *
                        generalize countTo (st R0 L).1 i = nf at *
                        generalize countTo (st R0 L).2.1 i = np at *
                        go_wp2_with fail
                        go_region_held3 (fun w' => w'.cell? ⟨b + 4, 21, none⟩ = some (.int .i64 f) ∧ w'.cell? ⟨b + 4, 22, none⟩ = some v ∧ w'.cell? ⟨b + 5, i, none⟩ = some (.bool ri) ∧ w'.cell? ⟨b + 6, i, none⟩ = some (.bool fi) ∧ w'.cell? ⟨b + 7, i, none⟩ = some (.bool pi)) (go_keep) ((first
                          | (go_at_call 9; refine (H9.out _ (by exact (Below.refl _ _).drew)).mono ?_; rintro e w8 ⟨rfl, hb8⟩; have hB8 : Below wr.heap.size wr w8 := (Below.refl _ _).drew.trans hb8; have k8 : ∀ j, w8.cell? ⟨b + 4, j, none⟩ = wr.cell? ⟨b + 4, j, none⟩ := fun j => hB8.cell (p := ⟨b + 4, j, none⟩) hb4; have l8 : ∀ j, w8.cell? ⟨b + 5, j, none⟩ = wr.cell? ⟨b + 5, j, none⟩ := fun j => hB8.cell (p := ⟨b + 5, j, none⟩) hb5; have m8 : ∀ j, w8.cell? ⟨b + 6, j, none⟩ = wr.cell? ⟨b + 6, j, none⟩ := fun j => hB8.cell (p := ⟨b + 6, j, none⟩) hb6; have n8 : ∀ j, w8.cell? ⟨b + 7, j, none⟩ = wr.cell? ⟨b + 7, j, none⟩ := fun j => hB8.cell (p := ⟨b + 7, j, none⟩) hb7)
                          | (go_at_call 10; refine (HA.out _ (by exact hB8)).mono ?_; rintro e w9 ⟨rfl, hb9⟩; have hB9 : Below wr.heap.size wr w9 := hB8.trans (hb9.mono hB8.size); have k9 : ∀ j, w9.cell? ⟨b + 4, j, none⟩ = wr.cell? ⟨b + 4, j, none⟩ := fun j => hB9.cell (p := ⟨b + 4, j, none⟩) hb4; have l9 : ∀ j, w9.cell? ⟨b + 5, j, none⟩ = wr.cell? ⟨b + 5, j, none⟩ := fun j => hB9.cell (p := ⟨b + 5, j, none⟩) hb5; have m9 : ∀ j, w9.cell? ⟨b + 6, j, none⟩ = wr.cell? ⟨b + 6, j, none⟩ := fun j => hB9.cell (p := ⟨b + 6, j, none⟩) hb6; have n9 : ∀ j, w9.cell? ⟨b + 7, j, none⟩ = wr.cell? ⟨b + 7, j, none⟩ := fun j => hB9.cell (p := ⟨b + 7, j, none⟩) hb7)
                          | (go_at_call 10; refine (HC.out _ (by exact hB9)).mono ?_; rintro e w10 ⟨rfl, hb10⟩; have hB10 : Below wr.heap.size wr w10 := hB9.trans (hb10.mono hB9.size); have k10 : ∀ j, w10.cell? ⟨b + 4, j, none⟩ = wr.cell? ⟨b + 4, j, none⟩ := fun j => hB10.cell (p := ⟨b + 4, j, none⟩) hb4; have l10 : ∀ j, w10.cell? ⟨b + 5, j, none⟩ = wr.cell? ⟨b + 5, j, none⟩ := fun j => hB10.cell (p := ⟨b + 5, j, none⟩) hb5; have m10 : ∀ j, w10.cell? ⟨b + 6, j, none⟩ = wr.cell? ⟨b + 6, j, none⟩ := fun j => hB10.cell (p := ⟨b + 6, j, none⟩) hb6; have n10 : ∀ j, w10.cell? ⟨b + 7, j, none⟩ = wr.cell? ⟨b + 7, j, none⟩ := fun j => hB10.cell (p := ⟨b + 7, j, none⟩) hb7)))
                        have HQ10 := hid (HQ.out.trans (hB10.mono HQ.out.size))
                        have t2' := (m10 i).trans t2
                        have t3' := (n10 i).trans t3
                        clear k8 l8 m8 n8 k9 l9 m9 n9 hb8 hb9 hb10 hB8 hB9 hB10 H9 HA HC e0 e1 t1 t2 t3 k10 l10 m10 n10
                        cases fi <;> cases pi
                        all_goals
                          go_wp2
                          go_roundw
                          case rel =>
                            refine ⟨i + 1, by omega, by go_num, ?_, ?_, HQ10.out⟩
                            · rw [HN.out.1]; first | rfl | (simp; go_num) | (congr 1; go_num)
                            · rw [HN.out.2]; first | rfl | (simp; go_num) | (congr 1; go_num)
                          case measure => simp [intOf]; omega
                      · have hi6 : i = 512 := by omega
                        subst hi6
                        have hFr := HF7.out.below hBr
                        obtain ⟨ow, o1, o2, o3, hp, _⟩ := hFr.pg
                        obtain ⟨hc1, hc2⟩ := count_st R0 L HL.out
                        have H1 := hid (plen_calls _ (b + 4) 9 (b + 5) _ _ hp.free)
                        have H2 := hid (plen_calls _ (b + 4) 15 (b + 5) _ _ hp.pend)
                        rw [hc1] at H1
                        rw [hc2] at H2
                        have HE := hid hFr.bel
                        clear hFr hp hBr hc1 hc2
                        go_wp2_with (first | (go_at_call 11; refine H1.out.mono ?_; rintro e w8 ⟨rfl, rfl⟩) | (go_at_call 11; refine H2.out.mono ?_; rintro e w8 ⟨rfl, rfl⟩))
                        go_ret
                        exact ⟨rfl, HE.out⟩
end Go.Proofs.Ybulkcuks
