/-
  zzs4802cbuild.
-/
import Derived.Test.YbulkcuksDoorWant
namespace Go.Proofs.YbulkcuksDoor
open Go.RowKit

/-- The pager in block bp: its meta, its two sets, no checkpoint in flight. -/
structure PagerAt (w : World) (bp base : Nat) (o0 o1 o2 o3 o4 o5 : Int) (ownF ownP : List Nat) (MF MP : Nat → Bool) : Prop where
  hm2 : ∀ j, j < 8 → (w.cell? ⟨bp, j, none⟩).isSome = true
  c2 : w.cell? ⟨bp, 2, none⟩ = some (.int .u64 o0)
  c3 : w.cell? ⟨bp, 3, none⟩ = some (.int .u32 o1)
  c4 : w.cell? ⟨bp, 4, none⟩ = some (.int .u32 o2)
  c5 : w.cell? ⟨bp, 5, none⟩ = some (.int .u32 o3)
  c6 : w.cell? ⟨bp, 6, none⟩ = some (.int .u32 o4)
  c7 : w.cell? ⟨bp, 7, none⟩ = some (.int .i64 o5)
  c23 : w.cell? ⟨bp, 23, none⟩ = some (.pointer none)
  hz : ∀ j, w.frozen? ⟨bp, j, none⟩ = false
  free : PSet w bp 9 base ownF MF
  pend : PSet w bp 15 base ownP MP
  dFP : ∀ x ∈ ownF, x ∉ ownP

def noPg : Nat → Bool := fun _ => false

/-- the cells of a new pager -/
def pgCells (o0 o1 o2 o3 o4 o5 : Int) : Array Value := #[.pointer none, .pointer none, .int .u64 o0, .int .u32 o1, .int .u32 o2, .int .u32 o3, .int .u32 o4, .int .i64 o5, .slice none 0 0, .int .i64 0, .slice none 0 0, .int .i64 0, .slice none 0 0, .int .i64 0, .int .i64 0, .int .i64 0, .slice none 0 0, .int .i64 0, .slice none 0 0, .int .i64 0, .int .i64 0, .int .i64 0, .slice none 0 0, .pointer none, .int .i64 0, .slice none 0 0, .pointer none, .int .u64 0, .slice none 0 0, .int .i32 0, .int .u32 0, .int .u64 0, .slice none 0 0, .slice none 0 0]

theorem pager_new (w : World) (base : Nat) (o0 o1 o2 o3 o4 o5 : Int) : PagerAt (w.alloc (.cells (pgCells o0 o1 o2 o3 o4 o5) 61)) w.heap.size base o0 o1 o2 o3 o4 o5 [] [] noPg noPg := by
  have hc : ∀ j, (w.alloc (.cells (pgCells o0 o1 o2 o3 o4 o5) 61)).cell? ⟨w.heap.size, j, none⟩ = (pgCells o0 o1 o2 o3 o4 o5)[j]? := fun j => World.cell?_alloc_at (w := w) _ _ w.heap.size j rfl
  have hz : ∀ j, (w.alloc (.cells (pgCells o0 o1 o2 o3 o4 o5) 61)).frozen? ⟨w.heap.size, j, none⟩ = false := fun j => World.frozen?_alloc_at (w := w) _ _ w.heap.size j rfl
  refine ⟨fun j hj => ?_, by rw [hc]; rfl, by rw [hc]; rfl, by rw [hc]; rfl, by rw [hc]; rfl, by rw [hc]; rfl, by rw [hc]; rfl, by rw [hc]; rfl, hz, PSet.zero (by rw [hc]; rfl) (by rw [hc]; rfl) (by rw [hc]; rfl) (by rw [hc]; rfl) (by rw [hc]; rfl) (by rw [hc]; rfl) hz,
    PSet.zero (by rw [hc]; rfl) (by rw [hc]; rfl) (by rw [hc]; rfl) (by rw [hc]; rfl) (by rw [hc]; rfl) (by rw [hc]; rfl) hz, fun x hx => by cases hx⟩
  rw [hc, Array.getElem?_eq_getElem (by show j < 34; omega)]; rfl

theorem build_end {w W V wr : World} {bp base wf wp : Nat} {o0 o1 o2 o3 o4 o5 : Int} {own own2 : List Nat} {MF MP : Nat → Bool} (_hbase : base ≤ w.heap.size) (hwl : wf < w.heap.size) (hwl2 : wp < w.heap.size) (hfp : wf ≠ wp) (hbf : base ≤ wf) (hbp : base ≤ wp) (hs1 : w.heap.size < bp) (hWge : bp < W.heap.size)
    (hpg : PagerAt W bp base o0 o1 o2 o3 o4 o5 [] [] noPg noPg) (hBW : Below w.heap.size w W) (hQ : PSet V bp 9 base own MF) (hqo : ∀ x ∈ own, W.heap.size ≤ x) (hwt : WAt V wf MF) (hF : Fr W V bp 9 6 [wf])
    (hQ2 : PSet wr bp 15 base own2 MP) (hqo2 : ∀ x ∈ own2, V.heap.size ≤ x) (hwt2 : WAt wr wp MP) (hF2 : Fr V wr bp 15 6 [wp]) :
    ∃ bp' ownF ownP, Ending.returned (.pointer (some ⟨bp, 0, none⟩)) = .returned (.pointer (some ⟨bp', 0, none⟩)) ∧ w.heap.size ≤ bp' ∧ (∀ x ∈ ownF, w.heap.size ≤ x) ∧ (∀ x ∈ ownP, w.heap.size ≤ x) ∧ PagerAt wr bp' base o0 o1 o2 o3 o4 o5 ownF ownP MF MP ∧
        WAt wr wf MF ∧ WAt wr wp MP ∧ Below base w wr ∧ ∀ x, x < w.heap.size → x ≠ wf → x ≠ wp → wr.heap[x]? = w.heap[x]? := by
  have hsF := hF.size
  have hsF2 := hF2.size
  have hsB := hBW.size
  have hcell : ∀ j, j < 9 ∨ 21 ≤ j → wr.cell? ⟨bp, j, none⟩ = W.cell? ⟨bp, j, none⟩ := fun j hj => (hF2.cell j (by omega)).trans (hF.cell j (by omega))
  have hold : ∀ x, x < w.heap.size → x ≠ wf → x ≠ wp → wr.heap[x]? = w.heap[x]? := fun x hx h1 h2 => ((hF2.block x (by omega) (by omega) (by simp; omega)).trans (hF.block x (by omega) (by omega) (by simp; omega))).trans (hBW.block x hx)
  refine ⟨bp, own, own2, rfl, by omega, fun x hx => by have := hqo x hx; omega, fun x hx => by have := hqo2 x hx; omega, ?_, ?_, hwt2, ?_, hold⟩
  · refine ⟨fun j hj => by rw [hcell j (by omega)]; exact hpg.hm2 j hj, (hcell 2 (by omega)).trans hpg.c2, (hcell 3 (by omega)).trans hpg.c3, (hcell 4 (by omega)).trans hpg.c4, (hcell 5 (by omega)).trans hpg.c5, (hcell 6 (by omega)).trans hpg.c6, (hcell 7 (by omega)).trans hpg.c7, (hcell 23 (by omega)).trans hpg.c23,
      fun j => ((hF2.frz j).trans (hF.frz j)).trans (hpg.hz j), ?_, hQ2, fun x hx hx2 => ?_⟩
    · exact hQ.other hF2 (.inl (by omega)) (fun x hx => by have := hqo x hx; simp; omega)
    · have := (hQ.olt x hx).1; have := hqo2 x hx2; omega
  · exact hwt.keep (hF2.block wf (by omega) (by omega) (by simp; omega))
  · exact ⟨hF2.os.trans (hF.os.trans hBW.os), hF2.tape.trans (hF.tape.trans hBW.tape), hF2.output.trans (hF.output.trans hBW.output), by omega, fun x hx => hold x (by omega) (by omega) (by omega)⟩

set_option maxRecDepth 100000 in
set_option maxHeartbeats 2000000 in
theorem build_any (o0 o1 o2 o3 o4 o5 : Int) (a0 a1 : Option Addr) (n0 n1 k0 k1 wf wp base : Nat) (xs ys : List Nat) (w : World) (hbase : base ≤ w.heap.size) (hx : Row32 w base a0 n0 xs) (hy : Row32 w base a1 n1 ys) (hn0 : n0 ≤ 1024) (hn1 : n1 ≤ 1024)
    (hwf : WAt w wf noPg) (hwp : WAt w wp noPg) (hfp : wf ≠ wp) (hbf : base ≤ wf) (hbp : base ≤ wp) :
    Calls Ybad.prog 5 #[.agg #[.int .u64 o0, .int .u32 o1, .int .u32 o2, .int .u32 o3, .int .u32 o4, .int .i64 o5], .slice a0 n0 k0, .slice a1 n1 k1, .slice (some ⟨wf, 0, none⟩) 4096 4096, .slice (some ⟨wp, 0, none⟩) 4096 4096] w fun e w' =>
      ∃ bp ownF ownP, e = .returned (.pointer (some ⟨bp, 0, none⟩)) ∧ w.heap.size ≤ bp ∧ (∀ x ∈ ownF, w.heap.size ≤ x) ∧ (∀ x ∈ ownP, w.heap.size ≤ x) ∧ PagerAt w' bp base o0 o1 o2 o3 o4 o5 ownF ownP (adds noPg (ids xs)) (adds noPg (ids ys)) ∧
        WAt w' wf (adds noPg (ids xs)) ∧ WAt w' wp (adds noPg (ids ys)) ∧ Below base w w' ∧ ∀ x, x < w.heap.size → x ≠ wf → x ≠ wp → w'.heap[x]? = w.heap[x]? := by
  have HX := hid (hx)
  have HY := hid (hy)
  have HW := hid (And.intro hwf hwp)
  have hwl := hwf.lt
  have hwl2 := hwp.lt
  clear hx hy hwf hwp
  go_enter Ybad.func5, Ybad.ntmps5
  go_wp2_with fail
  refine (meta_any o0 o1 o2 o3 o4 o5 _).mono ?_
  rintro e w1 ⟨rfl, hb⟩
  have hB1 : Below w.heap.size w w1 := ((Below.refl _ _).alloc (Nat.le_refl _) _).trans (hb.mono (by simp))
  have hs1 : w.heap.size < w1.heap.size := by have := hb.size; simp at this; omega
  clear hb
  go_wp2_with fail
  obtain ⟨W, hW⟩ : ∃ W, W = w1.alloc (.cells (pgCells o0 o1 o2 o3 o4 o5) 61) := ⟨_, rfl⟩
  have hpg := pager_new w1 base o0 o1 o2 o3 o4 o5
  rw [← hW] at hpg
  have hBW : Below w.heap.size w W := by rw [hW]; exact hB1.alloc (Nat.le_of_lt hs1) _
  have hWs : W.heap.size = w1.heap.size + 1 := by rw [hW]; simp
  have hWW : w1.alloc (.cells #[.pointer none, .pointer none, .int .u64 o0, .int .u32 o1, .int .u32 o2, .int .u32 o3, .int .u32 o4, .int .i64 o5, .slice none 0 0, .int .i64 0, .slice none 0 0, .int .i64 0, .slice none 0 0, .int .i64 0, .int .i64 0, .int .i64 0, .slice none 0 0, .int .i64 0, .slice none 0 0, .int .i64 0, .int .i64 0, .int .i64 0, .slice none 0 0, .pointer none, .int .i64 0, .slice none 0 0, .pointer none, .int .u64 0, .slice none 0 0, .int .i32 0, .int .u32 0, .int .u64 0, .slice none 0 0, .slice none 0 0] 61) = W := by rw [hW]; rfl
  rw [hWW]
  clear hW hWW
  have hWge : w1.heap.size < W.heap.size := by omega
  have HP := hid (And.intro hpg (And.intro hBW hB1))
  clear hpg hBW hB1 hWs
  generalize hbpe : w1.heap.size = bp at *
  clear hbpe
  go_loopw [24] (fun c wr => ∃ (k : Nat) (own : List Nat), k ≤ n0 ∧ c = .int .i64 k ∧ PSet wr bp 9 base own (adds noPg (ids (xs.take k))) ∧ (∀ x ∈ own, W.heap.size ≤ x) ∧ WAt wr wf (adds noPg (ids (xs.take k))) ∧ Fr W wr bp 9 6 [wf])
    (fun c _ => n0 - (intOf c).toNat)
  case atStart =>
    obtain ⟨hpg, hBW, _⟩ := HP.out
    refine ⟨0, [], Nat.zero_le _, rfl, ?_, (fun x hx => by cases hx), ?_, Fr.refl _ _ _ _ _⟩
    · rw [List.take_zero]; exact hpg.free.congr (adds_nil noPg).symm
    · rw [List.take_zero]; show WAt W wf (adds noPg []); rw [adds_nil]; exact HW.out.1.keep (hBW.block wf hwl)
  case round =>
    obtain ⟨k, own, hk, rfl, hQ, hqo, hwt, hF⟩ := hrel
    by_cases hlt : k < n0
    · obtain ⟨b, o, ha, hbB, hx32, hcell⟩ := HX.out.at hlt
      subst ha
      have hxl : xs.length = n0 := HX.out.1
      have HT : Hid (ids (xs.take (k + 1)) = ids (xs.take k) ++ [xs.getD k 0 % 4096]) := ids_take xs k (by omega)
      have ec : wr.cell? ⟨b, o + k, none⟩ = some (.int .u32 (xs.getD k 0 : Nat)) := ((World.cell?_of_block (a := ⟨b, o + k, none⟩) (hF.block b (by show b < _; omega) (by show b ≠ _; omega) (by simp; omega))).trans (HP.out.2.1.cell (p := ⟨b, o + k, none⟩) (by show b < _; omega))).trans hcell
      generalize xs.getD k 0 = y at hx32 ec HT
      have hy4 : y % 4096 < 4096 := Nat.mod_lt _ (by decide)
      have hsF := hF.size
      have HA := hid (add_any bp 9 base (y % 4096) own _ wr hQ (by omega) hy4)
      have HQ := hid (And.intro hqo (And.intro hwt hF))
      clear hQ hqo hwt hF hxl hcell
      go_wp2_with fail
      rw [show ((y : Int) % 4096) = ((y % 4096 : Nat) : Int) by omega]
      refine HA.out.mono ?_
      rintro e W3 ⟨rfl, own', hP', ho', hF'⟩
      obtain ⟨hqo, hwt, hF⟩ := HQ.out
      obtain ⟨ew, ez, q1, q2, q3, q4⟩ := want_step hP' hwt hqo ho' hF hF' (by omega) (by omega) hy4
      have HE := hid (And.intro q1 (And.intro q2 (And.intro q3 q4)))
      clear hP' ho' hF' hqo hwt hF q1 q2 q3 q4
      go_wp2
      go_roundw
      case rel =>
        obtain ⟨q1, q2, q3, q4⟩ := HE.out
        exact ⟨k + 1, own', by omega, by go_num, by rw [HT.out, adds_snoc]; exact q1, q2, by rw [HT.out, adds_snoc]; exact q3, q4⟩
      case measure => simp [intOf]; omega
    · have hk2 : k = n0 := by omega
      subst hk2
      have htk : xs.take k = xs := List.take_of_length_le (by have := HX.out.1; omega)
      rw [htk] at hQ hwt
      clear htk
      obtain ⟨hpg, hBW, hB1⟩ := HP.out
      have hsF := hF.size
      have hPV : PSet wr bp 15 base [] noPg := hpg.pend.other hF (.inr (by omega)) (fun x hx => by cases hx)
      have hwV : WAt wr wp noPg := (HW.out.2.keep (hBW.block wp hwl2)).keep (hF.block wp (by omega) (by omega) (by simp; omega))
      have HV := hid (And.intro hQ (And.intro hqo (And.intro hwt (And.intro hF (And.intro hPV hwV)))))
      clear hQ hqo hwt hF hPV hwV hpg hBW hB1
      rename World => V
      go_wp2
      go_loopw [41] (fun c wr2 => ∃ (k : Nat) (own2 : List Nat), k ≤ n1 ∧ c = .int .i64 k ∧ PSet wr2 bp 15 base own2 (adds noPg (ids (ys.take k))) ∧ (∀ x ∈ own2, V.heap.size ≤ x) ∧ WAt wr2 wp (adds noPg (ids (ys.take k))) ∧ Fr V wr2 bp 15 6 [wp])
        (fun c _ => n1 - (intOf c).toNat)
      case atStart =>
        obtain ⟨_, _, _, _, hPV, hwV⟩ := HV.out
        refine ⟨0, [], Nat.zero_le _, rfl, ?_, (fun x hx => by cases hx), ?_, Fr.refl _ _ _ _ _⟩
        · rw [List.take_zero]; exact hPV.congr (adds_nil noPg).symm
        · rw [List.take_zero]; show WAt V wp (adds noPg []); rw [adds_nil]; exact hwV
      case round =>
        obtain ⟨j, own2, hj, rfl, hQ2, hqo2, hwt2, hF2⟩ := hrel
        by_cases hlt2 : j < n1
        · obtain ⟨b, o, ha, hbB, hx32, hcell⟩ := HY.out.at hlt2
          subst ha
          have hyl : ys.length = n1 := HY.out.1
          have HT : Hid (ids (ys.take (j + 1)) = ids (ys.take j) ++ [ys.getD j 0 % 4096]) := ids_take ys j (by omega)
          have hFV := HV.out.2.2.2.1
          have ec : wr.cell? ⟨b, o + j, none⟩ = some (.int .u32 (ys.getD j 0 : Nat)) := (((World.cell?_of_block (a := ⟨b, o + j, none⟩) (hF2.block b (by show b < _; omega) (by show b ≠ _; omega) (by simp; omega))).trans (World.cell?_of_block (a := ⟨b, o + j, none⟩) (hFV.block b (by show b < _; omega) (by show b ≠ _; omega) (by simp; omega)))).trans (HP.out.2.1.cell (p := ⟨b, o + j, none⟩) (by show b < _; omega))).trans hcell
          generalize ys.getD j 0 = y at hx32 ec HT
          have hy4 : y % 4096 < 4096 := Nat.mod_lt _ (by decide)
          have hsF2 := hF2.size
          have HA := hid (add_any bp 15 base (y % 4096) own2 _ wr hQ2 (by omega) hy4)
          have HQ := hid (And.intro hqo2 (And.intro hwt2 hF2))
          clear hQ2 hqo2 hwt2 hF2 hyl hcell hFV
          go_wp2_with fail
          rw [show ((y : Int) % 4096) = ((y % 4096 : Nat) : Int) by omega]
          refine HA.out.mono ?_
          rintro e W3 ⟨rfl, own', hP', ho', hF'⟩
          obtain ⟨hqo2, hwt2, hF2⟩ := HQ.out
          obtain ⟨ew, ez, q1, q2, q3, q4⟩ := want_step hP' hwt2 hqo2 ho' hF2 hF' (by omega) (by omega) hy4
          have HE := hid (And.intro q1 (And.intro q2 (And.intro q3 q4)))
          clear hP' ho' hF' hqo2 hwt2 hF2 q1 q2 q3 q4
          go_wp2
          go_roundw
          case rel =>
            obtain ⟨q1, q2, q3, q4⟩ := HE.out
            exact ⟨j + 1, own', by omega, by go_num, by rw [HT.out, adds_snoc]; exact q1, q2, by rw [HT.out, adds_snoc]; exact q3, q4⟩
          case measure => simp [intOf]; omega
        · have hj2 : j = n1 := by omega
          subst hj2
          have htk : ys.take j = ys := List.take_of_length_le (by have := HY.out.1; omega)
          rw [htk] at hQ2 hwt2
          have HQ := hid (And.intro hQ2 (And.intro hqo2 (And.intro hwt2 hF2)))
          clear hQ2 hqo2 hwt2 hF2 htk
          go_wp2
          go_ret
          obtain ⟨hpg, hBW, hB1⟩ := HP.out
          obtain ⟨hQ, hqo, hwt, hF, _, _⟩ := HV.out
          obtain ⟨hQ2, hqo2, hwt2, hF2⟩ := HQ.out
          exact build_end hbase hwl hwl2 hfp hbf hbp hs1 hWge hpg hBW hQ hqo hwt hF hQ2 hqo2 hwt2 hF2
end Go.Proofs.YbulkcuksDoor
