/-
  holdfast.LawS4802CFinish: its walk, where no list is longer than 1024.
-/
import Derived.Test.YbulkcuksDoorDone
namespace Go.Proofs.YbulkcuksDoor
open Go.RowKit

theorem law_fin_state {w w1 V3 : World} {bp bc ch lb j : Nat} {o0 o1 o2 o3 o4 o5 m0 m1 m2 m3 m4 m5 : Int} {ownF ownP own l : List Nat} {MF MP R : Nat → Bool} (h0 : 0 < w.heap.size) (hpg : PagerAt w1 bp w.heap.size o0 o1 o2 o3 o4 o5 ownF ownP MF MP)
    (hjn : Jn w1 V3 bc ch w.heap.size lb m0 m1 m2 m3 m4 m5 .nilIface own R (ids l) ([w.heap.size + 2] ++ [w.heap.size + 3])) (hoF4 : ∀ x ∈ ownF, w.heap.size + 4 ≤ x) (hoP4 : ∀ x ∈ ownP, w.heap.size + 4 ≤ x) (hlen : (ids l).length = j) (hbp4 : w.heap.size + 4 ≤ bp) (hs1 : w.heap.size + 4 ≤ w1.heap.size) (hj : j ≤ 1024)
    (hT : TabAt w) (hB : Below w.heap.size w w1) : FinSt (flyW V3 bp bc ch lb j) bp bc ch w.heap.size lb m0 m1 m2 m3 m4 m5 ownF ownP own (ids l) MF MP R := by
  subst hlen
  refine jn_fin hpg hjn (by simp; omega) (by intro x hx; have := hoF4 x hx; simp; omega) (by intro x hx; have := hoP4 x hx; simp; omega) ?_ h0 (by omega) (by omega) hj (ids_lt l)
  intro k hk
  rw [World.cell?_of_block (a := ⟨0, k, none⟩) (hjn.old 0 (by omega) (by simp)), hB.cell (p := ⟨0, k, none⟩) h0]
  exact hT k hk

set_option maxRecDepth 100000 in
set_option maxHeartbeats 4000000 in
theorem law_finish (o0 o1 o2 o3 o4 o5 m0 m1 m2 m3 m4 m5 : Int) (a0 a1 a2 a3 : Option Addr) (n0 n1 n2 n3 k0 k1 k2 k3 : Nat) (xs ys rs ls : List Nat) (w : World)
    (h0 : Row32 w w.heap.size a0 n0 xs) (h1 : Row32 w w.heap.size a1 n1 ys) (h2 : Row32 w w.heap.size a2 n2 rs) (h3 : Row32 w w.heap.size a3 n3 ls) (hT : TabAt w) (h0b : 0 < w.heap.size) (hn0 : n0 ≤ 1024) (hn1 : n1 ≤ 1024) (hn2 : n2 ≤ 1024) (hn3 : n3 ≤ 1024) :
    Calls Ybad.prog 3 #[.agg #[.int .u64 o0, .int .u32 o1, .int .u32 o2, .int .u32 o3, .int .u32 o4, .int .i64 o5], .agg #[.int .u64 m0, .int .u32 m1, .int .u32 m2, .int .u32 m3, .int .u32 m4, .int .i64 m5], .slice a0 n0 k0, .slice a1 n1 k1, .slice a2 n2 k2, .slice a3 n3 k3] w fun e w' =>
      e = .returned (.bool true) ∧ Below w.heap.size w w' := by
  have HR := hid (And.intro h0 (And.intro h1 (And.intro h2 (And.intro h3 hT))))
  clear h0 h1 h2 h3 hT
  have hmk := run_make_want
  go_enter Ybad.func3, Ybad.ntmps3
  go_wp2_with fail
  obtain ⟨W, hW⟩ : ∃ W, W = (((w.alloc (.cells #[.int .u64 o0, .int .u32 o1, .int .u32 o2, .int .u32 o3, .int .u32 o4, .int .i64 o5] 25)).alloc (.cells #[.int .u64 m0, .int .u32 m1, .int .u32 m2, .int .u32 m3, .int .u32 m4, .int .i64 m5] 25)).alloc (.cells (wrow (fun _ => false)) 4)).alloc (.cells (wrow (fun _ => false)) 4) := ⟨_, rfl⟩
  have hWs : W.heap.size = w.heap.size + 4 := by rw [hW]; simp
  have hBW : Below w.heap.size w W := by rw [hW]; exact ((((Below.refl _ _).alloc (Nat.le_refl _) _).alloc (by simp) _).alloc (by simp; omega) _).alloc (by simp; omega) _
  have hnx : W.heap[w.heap.size + 1]? = some (.cells #[.int .u64 m0, .int .u32 m1, .int .u32 m2, .int .u32 m3, .int .u32 m4, .int .i64 m5] 25 (0, 0)) := by
    rw [hW, Below.heap_alloc _ _ _ (by simp), Below.heap_alloc _ _ _ (by simp)]
    have := heap_alloc_new (w.alloc (.cells #[.int .u64 o0, .int .u32 o1, .int .u32 o2, .int .u32 o3, .int .u32 o4, .int .i64 o5] 25)) (.cells #[.int .u64 m0, .int .u32 m1, .int .u32 m2, .int .u32 m3, .int .u32 m4, .int .i64 m5] 25)
    rwa [World.size_alloc] at this
  have hwf : WAt W (w.heap.size + 2) noPg := by
    rw [hW]
    unfold WAt
    rw [Below.heap_alloc _ _ _ (by simp)]
    have := heap_alloc_new ((w.alloc (.cells #[.int .u64 o0, .int .u32 o1, .int .u32 o2, .int .u32 o3, .int .u32 o4, .int .i64 o5] 25)).alloc (.cells #[.int .u64 m0, .int .u32 m1, .int .u32 m2, .int .u32 m3, .int .u32 m4, .int .i64 m5] 25)) (.cells (wrow (fun _ => false)) 4)
    rwa [World.size_alloc, World.size_alloc] at this
  have hwp : WAt W (w.heap.size + 3) noPg := by
    rw [hW]
    unfold WAt
    have := heap_alloc_new (((w.alloc (.cells #[.int .u64 o0, .int .u32 o1, .int .u32 o2, .int .u32 o3, .int .u32 o4, .int .i64 o5] 25)).alloc (.cells #[.int .u64 m0, .int .u32 m1, .int .u32 m2, .int .u32 m3, .int .u32 m4, .int .i64 m5] 25)).alloc (.cells (wrow (fun _ => false)) 4)) (.cells (wrow (fun _ => false)) 4)
    rwa [World.size_alloc, World.size_alloc, World.size_alloc] at this
  rw [← hW]
  clear hW
  refine (build_any o0 o1 o2 o3 o4 o5 a0 a1 n0 n1 k0 k1 (w.heap.size + 2) (w.heap.size + 3) w.heap.size xs ys W (by omega) (HR.out.1.below hBW) (HR.out.2.1.below hBW) hn0 hn1 hwf hwp (by omega) (by omega) (by omega)).mono ?_
  rintro e w1 ⟨bp, ownF, ownP, rfl, hbp, hoF, hoP, hpg, hf1, hp1, hB1, hold⟩
  have hnx1 : w1.heap[w.heap.size + 1]? = some (.cells #[.int .u64 m0, .int .u32 m1, .int .u32 m2, .int .u32 m3, .int .u32 m4, .int .i64 m5] 25 (0, 0)) := (hold _ (by omega) (by omega) (by omega)).trans hnx
  have hBw1 : Below w.heap.size w w1 := hBW.trans hB1
  have hs1 : w.heap.size + 4 ≤ w1.heap.size := by have := hB1.size; omega
  have hbp4 : w.heap.size + 4 ≤ bp := by omega
  have hbl : bp < w1.heap.size := hpg.free.blt
  have hoF4 : ∀ x ∈ ownF, w.heap.size + 4 ≤ x := fun x hx => by have := hoF x hx; omega
  have hoP4 : ∀ x ∈ ownP, w.heap.size + 4 ≤ x := fun x hx => by have := hoP x hx; omega
  have H1 := hid (And.intro hpg (And.intro hf1 (And.intro hp1 (And.intro hBw1 (And.intro hnx1 (And.intro hoF4 hoP4))))))
  clear hWs hBW hnx hwf hwp hbp hoF hoP hpg hf1 hp1 hB1 hold hnx1 hBw1 hoF4 hoP4 W hmk
  go_wp2_with fail
  go_cut [16] (fun t wc => ∃ bc ch, t = .pointer (some ⟨bc, 0, none⟩) ∧ CkNew w1 wc bc ch m0 m1 m2 m3 m4 m5 .nilIface)
  case first =>
    obtain ⟨_, _, _, _, hnx1, _, _⟩ := H1.out
    have hcx : ∀ (V : World) (j : Nat), Below w1.heap.size w1 V → V.cell? ⟨w.heap.size + 1, j, none⟩ = (#[.int .u64 m0, .int .u32 m1, .int .u32 m2, .int .u32 m3, .int .u32 m4, .int .i64 m5] : Array Value)[j]? := fun V j hV => by
      rw [hV.cell (p := ⟨w.heap.size + 1, j, none⟩) (by show w.heap.size + 1 < _; omega), cell_of_row w1 (w.heap.size + 1) j _ 25 (0, 0) hnx1]
    have hmk := mk35
    have c0 := hcx w1 0 (Below.refl _ _)
    have c1 := hcx w1 1 (Below.refl _ _)
    have c2 := hcx w1 2 (Below.refl _ _)
    have c3 := hcx w1 3 (Below.refl _ _)
    have c4 := hcx w1 4 (Below.refl _ _)
    have c5 := hcx w1 5 (Below.refl _ _)
    have HC := hid hcx
    have hlt : w.heap.size + 1 < w1.heap.size := by omega
    simp at c0 c1 c2 c3 c4 c5
    clear hcx hnx1
    go_region_with (go_at_call 6; refine (meta_any m0 m1 m2 m3 m4 m5 _).mono ?_; rintro e w2 ⟨rfl, hb2⟩)
    all_goals (go_wp2_with fail; go_meet; first | exact ⟨_, _, rfl, ckA m0 m1 m2 m3 m4 m5 .nilIface hb2⟩ | exact ⟨_, _, rfl, ckB m0 m1 m2 m3 m4 m5 .nilIface hb2⟩)
  case rest =>
    obtain ⟨bc, ch, rfl, hck⟩ := hcut
    have hbcl : w1.heap.size ≤ bc := hck.bcl
    have hblt : bc < wc.heap.size := hck.blt
    have hwcs : w1.heap.size ≤ wc.heap.size := hck.bel.size
    have HC := hid hck
    clear hck
    go_wp2
    go_loopw [58] (fun c wr => ∃ (k : Nat) (own : List Nat), k ≤ n2 ∧ c = .int .i64 k ∧ PSet wr bc 6 w.heap.size own (adds noPg (ids (rs.take k))) ∧ (∀ x ∈ own, wc.heap.size ≤ x) ∧ WAt wr (w.heap.size + 2) (adds (adds noPg (ids xs)) (ids (rs.take k))) ∧ Fr wc wr bc 6 6 [w.heap.size + 2])
      (fun c _ => n2 - (intOf c).toNat)
    case atStart =>
      obtain ⟨hpg, hf1, _⟩ := H1.out
      refine ⟨0, [], Nat.zero_le _, rfl, ?_, (fun x hx => by cases hx), ?_, Fr.refl _ _ _ _ _⟩
      · rw [List.take_zero]; exact (ck_zero HC.out _).congr (adds_nil noPg).symm
      · rw [List.take_zero]
        show WAt wc _ (adds _ [])
        rw [adds_nil]
        exact hf1.keep (HC.out.bel.block _ (by omega))
    case round =>
      obtain ⟨k, own, hk, rfl, hQ, hqo, hwt, hF⟩ := hrel
      by_cases hlt : k < n2
      · have hrow : Row32 wc w.heap.size a2 n2 rs := HR.out.2.2.1.below (H1.out.2.2.2.1.trans (HC.out.bel.mono (by omega)))
        obtain ⟨b, o, ha, hbB, hx32, hcell⟩ := hrow.at hlt
        subst ha
        have hxl : rs.length = n2 := hrow.1
        have HT : Hid (ids (rs.take (k + 1)) = ids (rs.take k) ++ [rs.getD k 0 % 4096]) := ids_take rs k (by omega)
        have ec : wr.cell? ⟨b, o + k, none⟩ = some (.int .u32 (rs.getD k 0 : Nat)) := (World.cell?_of_block (a := ⟨b, o + k, none⟩) (hF.block b (by show b < _; omega) (by show b ≠ _; omega) (by simp; omega))).trans hcell
        generalize rs.getD k 0 = y at hx32 ec HT
        have hy4 : y % 4096 < 4096 := Nat.mod_lt _ (by decide)
        have hsF := hF.size
        have HA := hid (add_any bc 6 w.heap.size (y % 4096) own _ wr hQ (by omega) hy4)
        have HQ := hid (And.intro hqo (And.intro hwt hF))
        clear hQ hqo hwt hF hxl hcell hrow
        go_wp2_with fail
        rw [show ((y : Int) % 4096) = ((y % 4096 : Nat) : Int) by omega]
        refine HA.out.mono ?_
        rintro e W3 ⟨rfl, own', hP', ho', hF'⟩
        obtain ⟨hqo, hwt, hF⟩ := HQ.out
        obtain ⟨ew, ez, q1, q2, q3, q4⟩ := want_step hP' hwt hqo ho' hF hF' (by omega) (by omega) hy4
        have HE := hid (And.intro q1 (And.intro q2 (And.intro q3 q4)))
        clear hP' ho' hF' hqo hwt hF q1 q2 q3 q4
        go_wp2
        go_roundw
        case rel =>
          obtain ⟨q1, q2, q3, q4⟩ := HE.out
          exact ⟨k + 1, own', by omega, by go_num, by rw [HT.out, adds_snoc]; exact q1, q2, by rw [HT.out, adds_snoc]; exact q3, q4⟩
        case measure => simp [intOf]; omega
      · have hk2 : k = n2 := by omega
        subst hk2
        have htk : rs.take k = rs := List.take_of_length_le (by have := HR.out.2.2.1.1; omega)
        rw [htk] at hQ hwt
        have hsF := hF.size
        have HV := hid (And.intro hQ (And.intro hqo (And.intro hwt hF)))
        clear hQ hqo hwt hF htk
        rename World => V1
        have hmk := run_make41 n3 (by omega)
        go_wp2
        obtain ⟨V2, hV2⟩ : ∃ V2, V2 = V1.alloc (.cells (lrow n3) 31) := ⟨_, rfl⟩
        have hB2 : Below V1.heap.size V1 V2 := by rw [hV2]; exact (Below.refl _ _).alloc (Nat.le_refl _) _
        have hl0 : LAt V2 V1.heap.size n3 [] := by rw [hV2]; exact LAt.new V1 n3
        have hs2 : V1.heap.size < V2.heap.size := by rw [hV2]; simp
        rw [← hV2]
        have HB2 := hid (And.intro hB2 hl0)
        clear hV2 hB2 hl0 hmk
        generalize hlb : V1.heap.size = lb at *
        have HLB := hid hlb
        clear hlb
        go_loopw [78] (fun c wr => ∃ (j : Nat), j ≤ n3 ∧ c = .int .i64 j ∧ LAt wr lb n3 (ids (ls.take j)) ∧ WAt wr (w.heap.size + 3) (adds (adds noPg (ids ys)) (ids (ls.take j))) ∧ Fr V2 wr lb 0 n3 [w.heap.size + 3])
          (fun c _ => n3 - (intOf c).toNat)
        case atStart =>
          obtain ⟨hB2, hl0⟩ := HB2.out
          obtain ⟨_, _, hp1, _⟩ := H1.out
          obtain ⟨_, _, _, hFV⟩ := HV.out
          refine ⟨0, Nat.zero_le _, rfl, by rw [List.take_zero]; exact hl0, ?_, Fr.refl _ _ _ _ _⟩
          rw [List.take_zero]
          show WAt V2 _ (adds _ [])
          rw [adds_nil]
          exact ((hp1.keep (HC.out.bel.block _ (by omega))).keep (hFV.block _ (by omega) (by omega) (by simp))).keep (hB2.block _ (by omega))
        case round =>
          obtain ⟨j, hj, rfl, hL, hwt, hF⟩ := hrel
          by_cases hlt2 : j < n3
          · have hrow : Row32 V2 w.heap.size a3 n3 ls := HR.out.2.2.2.1.below (((H1.out.2.2.2.1.trans (HC.out.bel.mono (by omega))).trans (HV.out.2.2.2.below (by omega) (by intro x hx; simp at hx; omega) (by omega))).trans (HB2.out.1.mono (by omega)))
            obtain ⟨b, o, ha, hbB, hx32, hcell⟩ := hrow.at hlt2
            subst ha
            have hxl : ls.length = n3 := hrow.1
            have HT : Hid (ids (ls.take (j + 1)) = ids (ls.take j) ++ [ls.getD j 0 % 4096]) := ids_take ls j (by omega)
            have hidl : (ids (ls.take j)).length = j := by unfold ids; rw [List.length_map, List.length_take]; omega
            have ec : wr.cell? ⟨b, o + j, none⟩ = some (.int .u32 (ls.getD j 0 : Nat)) := (World.cell?_of_block (a := ⟨b, o + j, none⟩) (hF.block b (by show b < _; omega) (by show b ≠ _; omega) (by simp; omega))).trans hcell
            generalize ls.getD j 0 = y at hx32 ec HT
            have hy4 : y % 4096 < 4096 := Nat.mod_lt _ (by decide)
            obtain ⟨v0, ev⟩ := Option.isSome_iff_exists.1 (hL.there j hlt2)
            have ez := hL.frz j
            have ew := hwt.cell (y % 4096) hy4
            have ewz := hwt.frz (y % 4096)
            have hsF2 := hF.size
            have hne3 : lb ≠ w.heap.size + 1 + 1 + 1 := by omega
            have hne4 : w.heap.size + 1 + 1 + 1 ≠ lb := by omega
            have HQ := hid (And.intro hL (And.intro hwt (And.intro hF hidl)))
            clear hL hwt hF hxl hcell hrow hidl
            go_wp2
            go_roundw
            case rel =>
              obtain ⟨hL, hwt, hF, hidl⟩ := HQ.out
              rw [show ((y : Int) % 4096) = ((y % 4096 : Nat) : Int) by omega]
              obtain ⟨q1, q2, q3⟩ := list_step hL hidl.symm hlt2 hwt hF (by omega) hy4
              exact ⟨j + 1, by omega, by go_num, by rw [HT.out]; exact q1, by rw [HT.out, adds_snoc]; exact q2, q3⟩
            case measure => simp [intOf]; omega
          · have hj2 : j = n3 := by omega
            subst hj2
            have htk : ls.take j = ls := List.take_of_length_le (by have := HR.out.2.2.2.1.1; omega)
            rw [htk] at hL hwt
            have hsF2 := hF.size
            have HV3 := hid (And.intro hL (And.intro hwt hF))
            clear hL hwt hF htk
            rename World => V3
            obtain ⟨hpg, hf1, hp1, hBw1, hnx1, hoF4, hoP4⟩ := H1.out
            obtain ⟨hQ, hqo, hwf, hFV⟩ := HV.out
            obtain ⟨hL, hwp, hF3⟩ := HV3.out
            have hlen : (ids ls).length = j := by unfold ids; rw [List.length_map]; exact HR.out.2.2.2.1.1
            have hjn := jn_mk HC.out hQ hqo hFV (by rw [HLB.out]; exact HB2.out.1) (by rw [HLB.out]; exact hs2) HLB.out hL hlen hF3 (by intro x hx; simp at hx; omega) (by intro x hx; simp at hx; omega)
            have hpV := jn_pager hpg hjn (by simp; omega) (by intro x hx; have := hoF4 x hx; simp; omega) (by intro x hx; have := hoP4 x hx; simp; omega)
            have hwf3 : WAt V3 (w.heap.size + 2) (adds (adds noPg (ids xs)) (ids rs)) := (hwf.keep (HB2.out.1.block _ (by omega))).keep (hF3.block _ (by omega) (by omega) (by simp))
            have hchl := hjn.chl
            have hn12 : bp ≠ bc := by omega
            have hn13 : bp ≠ ch := by omega
            have p12 := hjn.c12
            have p12z := hjn.z12
            have p13 := hjn.c13
            have hcl : ∀ ats ty, (Builtin.close_ ats ty #[.chan (some ch)]).run Ybad.prog (V3.setCell ⟨bc, 12, none⟩ (.slice (some ⟨lb, 0, none⟩) j j)) = .ok (.tuple #[]) (closeW (V3.setCell ⟨bc, 12, none⟩ (.slice (some ⟨lb, 0, none⟩) j j)) ch) := fun ats ty =>
              run_close_open ats ty (by rw [Below.heap_setCell _ _ _ _ (fun e => hjn.bne e.symm)]; exact hjn.chan)
            have p23 : (closeW (V3.setCell ⟨bc, 12, none⟩ (.slice (some ⟨lb, 0, none⟩) j j)) ch).cell? ⟨bp, 23, none⟩ = some (.pointer none) := by
              rw [World.cell?_of_block (a := ⟨bp, 23, none⟩) (closeW_other _ _ _ hn13), World.cell?_setCell_other _ _ _ _ (addr_ne (.inl (fun e => hn12 e.symm)))]
              exact hpV.c23
            have p23z : (closeW (V3.setCell ⟨bc, 12, none⟩ (.slice (some ⟨lb, 0, none⟩) j j)) ch).frozen? ⟨bp, 23, none⟩ = false := by
              rw [World.frozen?_of_block (a := ⟨bp, 23, none⟩) (closeW_other _ _ _ hn13), World.frozen?_setCell]
              exact hpV.hz 23
            have HJ := hid (And.intro hjn (And.intro hpV (And.intro hwf3 (And.intro hwp hlen))))
            clear hpg hf1 hp1 hBw1 hnx1 hoF4 hoP4 hQ hqo hwf hFV hL hwp hF3 hlen hjn hpV hwf3
            go_wp2_with fail
            have hfly : (closeW (V3.setCell ⟨bc, 12, none⟩ (.slice (some ⟨lb, 0, none⟩) j j)) ch).setCell ⟨bp, 23, none⟩ (.pointer (some ⟨bc, 0, none⟩)) = flyW V3 bp bc ch lb j := rfl
            rw [hfly]
            clear hfly hcl p12 p12z p13 p23 p23z
            have HFS := hid (law_fin_state h0b H1.out.1 HJ.out.1 H1.out.2.2.2.2.2.1 H1.out.2.2.2.2.2.2 HJ.out.2.2.2.2 hbp4 hs1 hn3 (HR.out.2.2.2.2) H1.out.2.2.2.1)
            refine (finish_ok bp bc ch w.heap.size lb m0 m1 m2 m3 m4 m5 ownF ownP own (ids ls) _ _ _ _ HFS.out).mono ?_
            rintro e w3 ⟨rfl, hfin⟩
            have HD := hid (law_done HJ.out.1 H1.out.2.2.2.2.2.1 H1.out.2.2.2.2.2.2 hbp4 hs1 H1.out.2.2.2.1 H1.out.2.2.2.2.1 HJ.out.2.2.1 HJ.out.2.2.2.1 hfin)
            clear hfin HFS HJ HV3 HV HB2 HC HLB hsF2 hs2 hsF hblt hwcs hbcl hchl hn12 hn13
            have d23 := HD.out.c23
            have d2 := HD.out.c2
            have d3 := HD.out.c3
            have d4 := HD.out.c4
            have d5 := HD.out.c5
            have d6 := HD.out.c6
            have d7 := HD.out.c7
            have b0 := HD.out.box 0
            have b1 := HD.out.box 1
            have b2 := HD.out.box 2
            have b3 := HD.out.box 3
            have b4 := HD.out.box 4
            have b5 := HD.out.box 5
            simp [mCells] at b0 b1 b2 b3 b4 b5
            go_wp2_with fail
            have hbl3 := HD.out.blt
            have hnl3 := HD.out.nlt
            go_region_held3 (fun w' => w'.cell? ⟨bp, 23, none⟩ = some (.pointer none) ∧ w'.cell? ⟨bp, 2, none⟩ = some (.int .u64 m0) ∧ w'.cell? ⟨bp, 3, none⟩ = some (.int .u32 m1) ∧ w'.cell? ⟨bp, 4, none⟩ = some (.int .u32 m2) ∧ w'.cell? ⟨bp, 5, none⟩ = some (.int .u32 m3) ∧ w'.cell? ⟨bp, 6, none⟩ = some (.int .u32 m4) ∧ w'.cell? ⟨bp, 7, none⟩ = some (.int .i64 m5) ∧ w'.cell? ⟨w.heap.size + 1, 0, none⟩ = some (.int .u64 m0) ∧ w'.cell? ⟨w.heap.size + 1, 1, none⟩ = some (.int .u32 m1) ∧ w'.cell? ⟨w.heap.size + 1, 2, none⟩ = some (.int .u32 m2) ∧ w'.cell? ⟨w.heap.size + 1, 3, none⟩ = some (.int .u32 m3) ∧ w'.cell? ⟨w.heap.size + 1, 4, none⟩ = some (.int .u32 m4) ∧ w'.cell? ⟨w.heap.size + 1, 5, none⟩ = some (.int .i64 m5)) (go_keep) ((go_at_call 6; refine (meta_any m0 m1 m2 m3 m4 m5 _).mono ?_; rintro e w4 ⟨rfl, hb4⟩; have hk4 : ∀ j, w4.cell? ⟨bp, j, none⟩ = w3.cell? ⟨bp, j, none⟩ := fun j => hb4.cell (p := ⟨bp, j, none⟩) hbl3; have hk5 : ∀ j, w4.cell? ⟨w.heap.size + 1, j, none⟩ = w3.cell? ⟨w.heap.size + 1, j, none⟩ := fun j => hb4.cell (p := ⟨w.heap.size + 1, j, none⟩) hnl3))
            have HD4 := hid (HD.out.below (show Below w3.heap.size w3 w4 from (Below.refl _ _).drew.trans hb4))
            clear d23 d2 d3 d4 d5 d6 d7 b0 b1 b2 b3 b4 b5 hk4 hk5 hb4 hbl3 hnl3 HD
            obtain ⟨oF, pF⟩ := HD4.out.free
            obtain ⟨f0, f1, f2, f3, f4, f5, e0, e1, e2, e3, e4, e5, t0, t1, t2, t3, t4, t5, hmF⟩ := done_match pF HD4.out.wf
            have HMF := hid (hmF w4 (Below.refl _ _))
            clear pF hmF
            go_wp2_with fail
            refine HMF.out.mono ?_
            rintro e w5 ⟨rfl, hb5⟩
            have HD5 := hid (HD4.out.below hb5)
            clear e0 e1 e2 e3 e4 e5 HD4 hb5 HMF
            obtain ⟨oP, pP⟩ := HD5.out.pend
            obtain ⟨g0, g1, g2, g3, g4, g5, e0, e1, e2, e3, e4, e5, s0, s1, s2, s3, s4, s5, hmP⟩ := done_match pP HD5.out.wp
            have HMP := hid (hmP w5 (Below.refl _ _))
            clear pP hmP
            go_wp2_with fail
            refine HMP.out.mono ?_
            rintro e w6 ⟨rfl, hb6⟩
            have HD6 := hid (HD5.out.below hb6)
            clear e0 e1 e2 e3 e4 e5 HD5 hb6 HMP
            go_wp2_with fail
            refine (finish_nil bp w6 HD6.out.c23).mono ?_
            rintro e w7 ⟨rfl, hb7⟩
            have HD7 := hid (HD6.out.below hb7)
            clear HD6 hb7
            have d23 := HD7.out.c23
            have d2 := HD7.out.c2
            have d3 := HD7.out.c3
            have d4 := HD7.out.c4
            have d5 := HD7.out.c5
            have d6 := HD7.out.c6
            have d7 := HD7.out.c7
            have b0 := HD7.out.box 0
            have b1 := HD7.out.box 1
            have b2 := HD7.out.box 2
            have b3 := HD7.out.box 3
            have b4 := HD7.out.box 4
            have b5 := HD7.out.box 5
            simp [mCells] at b0 b1 b2 b3 b4 b5
            clear t0 t1 t2 t3 t4 t5 s0 s1 s2 s3 s4 s5
            obtain ⟨oF, pF⟩ := HD7.out.free
            obtain ⟨oP, pP⟩ := HD7.out.pend
            obtain ⟨p0, p1, p2, p3, p4, p5, e0, e1, e2, e3, e4, e5, t0, t1, t2, t3, t4, t5, hmF⟩ := done_match pF HD7.out.wf
            obtain ⟨q0, q1, q2, q3, q4, q5, i0, i1, i2, i3, i4, i5, s0, s1, s2, s3, s4, s5, hmP⟩ := done_match pP HD7.out.wp
            have HMF := hid hmF
            have HMP := hid hmP
            have hbl7 := HD7.out.blt
            have hnl7 := HD7.out.nlt
            clear pF pP hmF hmP
            go_wp2_with fail
            go_region_held3 (fun w' => w'.cell? ⟨bp, 23, none⟩ = some (.pointer none) ∧ w'.cell? ⟨bp, 2, none⟩ = some (.int .u64 m0) ∧ w'.cell? ⟨bp, 3, none⟩ = some (.int .u32 m1) ∧ w'.cell? ⟨bp, 4, none⟩ = some (.int .u32 m2) ∧ w'.cell? ⟨bp, 5, none⟩ = some (.int .u32 m3) ∧ w'.cell? ⟨bp, 6, none⟩ = some (.int .u32 m4) ∧ w'.cell? ⟨bp, 7, none⟩ = some (.int .i64 m5) ∧ w'.cell? ⟨w.heap.size + 1, 0, none⟩ = some (.int .u64 m0) ∧ w'.cell? ⟨w.heap.size + 1, 1, none⟩ = some (.int .u32 m1) ∧ w'.cell? ⟨w.heap.size + 1, 2, none⟩ = some (.int .u32 m2) ∧ w'.cell? ⟨w.heap.size + 1, 3, none⟩ = some (.int .u32 m3) ∧ w'.cell? ⟨w.heap.size + 1, 4, none⟩ = some (.int .u32 m4) ∧ w'.cell? ⟨w.heap.size + 1, 5, none⟩ = some (.int .i64 m5) ∧ w'.cell? ⟨bp, 9, none⟩ = some p0 ∧ w'.cell? ⟨bp, 10, none⟩ = some p1 ∧ w'.cell? ⟨bp, 11, none⟩ = some p2 ∧ w'.cell? ⟨bp, 12, none⟩ = some p3 ∧ w'.cell? ⟨bp, 13, none⟩ = some p4 ∧ w'.cell? ⟨bp, 14, none⟩ = some p5 ∧ w'.cell? ⟨bp, 15, none⟩ = some q0 ∧ w'.cell? ⟨bp, 16, none⟩ = some q1 ∧ w'.cell? ⟨bp, 17, none⟩ = some q2 ∧ w'.cell? ⟨bp, 18, none⟩ = some q3 ∧ w'.cell? ⟨bp, 19, none⟩ = some q4 ∧ w'.cell? ⟨bp, 20, none⟩ = some q5) (go_keep) ((first | (go_at_call 6; refine (meta_any m0 m1 m2 m3 m4 m5 _).mono ?_; rintro e w8 ⟨rfl, hb8⟩; have hB8 : Below w7.heap.size w7 w8 := (Below.refl _ _).drew.trans hb8; have k8 : ∀ j, w8.cell? ⟨bp, j, none⟩ = w7.cell? ⟨bp, j, none⟩ := fun j => hB8.cell (p := ⟨bp, j, none⟩) hbl7; have l8 : ∀ j, w8.cell? ⟨w.heap.size + 1, j, none⟩ = w7.cell? ⟨w.heap.size + 1, j, none⟩ := fun j => hB8.cell (p := ⟨w.heap.size + 1, j, none⟩) hnl7) | (go_at_call_of 9 p1; refine (HMF.out _ (by exact hB8)).mono ?_; rintro e w9 ⟨rfl, hb9⟩; have hB9 : Below w7.heap.size w7 w9 := hB8.trans (hb9.mono hB8.size); have k9 : ∀ j, w9.cell? ⟨bp, j, none⟩ = w7.cell? ⟨bp, j, none⟩ := fun j => hB9.cell (p := ⟨bp, j, none⟩) hbl7; have l9 : ∀ j, w9.cell? ⟨w.heap.size + 1, j, none⟩ = w7.cell? ⟨w.heap.size + 1, j, none⟩ := fun j => hB9.cell (p := ⟨w.heap.size + 1, j, none⟩) hnl7) | (go_at_call_of 9 q1; refine (HMP.out _ (by exact hB9)).mono ?_; rintro e w10 ⟨rfl, hb10⟩; have hB10 : Below w7.heap.size w7 w10 := hB9.trans (hb10.mono hB9.size); have k10 : ∀ j, w10.cell? ⟨bp, j, none⟩ = w7.cell? ⟨bp, j, none⟩ := fun j => hB10.cell (p := ⟨bp, j, none⟩) hbl7; have l10 : ∀ j, w10.cell? ⟨w.heap.size + 1, j, none⟩ = w7.cell? ⟨w.heap.size + 1, j, none⟩ := fun j => hB10.cell (p := ⟨w.heap.size + 1, j, none⟩) hnl7)))
            have hfinal := HD7.out.bel.trans (hB10.mono HD7.out.bel.size)
            clear HMF HMP HD7 hB8 hB9 hB10 k8 l8 k9 l9 k10 l10
            go_wp2
            go_ret
            exact ⟨rfl, hfinal⟩
end Go.Proofs.YbulkcuksDoor
