/-
  slices.Insert(s, 0, v...) at []uint64, s and v each of one element or more, in two blocks: the walks of its two roads (after the guide's Derived/Shelf/Spec/SlicesInsert.lean, SlicesInsertGrow.lean, turned to this program).
-/
import Derived.Test.YbulkcuksRows
import Derived.Test.YbulkcuksLaws
import Derived.WalkKit
import Derived.WalkSpells
import Derived.KernelRfl
import Derived.Laws.Externs
import Derived.Lib.Overlaps
import Derived.Deep.RegionLaw
namespace Go.Proofs.Ybulkcuks
open Go.RowKit

theorem info22 : (Yba.prog.info? 40).map (fun i => (i.zero, i.size, i.bytes)) = some (some (.int .u64 0), 1, 8) := by kernel_rfl

section
variable {P : Program}
/-- 'copy' where its run is known. -/
theorem wp_copy_run (w : World) {o : Oper} {a : Act} {K : Act → World → Prop} {Q : Exit → Act → World → Prop} (d s : Operand) (t t' : TypeId)
    (ho : o.op = .call { callee := .builtin .copy, args := #[d, s], argTypes := #[t, t'] }) (v u : Value) (hd : a.eval d = v) (hs : a.eval s = u) {v' : Value} {w' : World}
    (hr : (Builtin.copy_ #[t, t'] o.type #[v, u]).run P w = .ok v' w') (h : K (a.put o.dst v') w') : o.wp P a w K Q := by
  unfold Oper.wp execOp
  simp only [ho, resolve, invoke, builtin, Sem.run_bind, Sem.run_pure, Result.andThen_ok, List.map_toArray, List.map_cons, List.map_nil, hd, hs, hr]
  exact h
theorem wpList_copy_run (w : World) {ops : Array Oper} {rest : List Oper} {o : Oper} {a : Act} {Q : Exit → Act → World → Prop} (hgd : o.guard = none) (d s : Operand) (t t' : TypeId)
    (ho : o.op = .call { callee := .builtin .copy, args := #[d, s], argTypes := #[t, t'] }) (v u : Value) (hd : a.eval d = v) (hs : a.eval s = u) {v' : Value} {w' : World}
    (hr : (Builtin.copy_ #[t, t'] o.type #[v, u]).run P w = .ok v' w') (h : wpList P ops Q rest (a.put o.dst v') w') : wpList P ops Q (o :: rest) a w :=
  wpList_plain hgd fun _ hK => wp_copy_run w d s t t' ho v u hd hs hr (hK _ _ h)
theorem step_copy_run {ops : Array Oper} {o : Oper} {a : Act} {w : World} {K : Act → World → Prop} {Q : Exit → Act → World → Prop} {E : Prop}
    (hg : o.guard = none) (d x : Operand) (dT sT : TypeId) (hop : o.op = Op.call { callee := Callee.builtin Builtin.copy, args := #[d, x], argTypes := #[dT, sT] })
    (v u : Value) (hd : a.eval d = v) (hx : a.eval x = u) {v' : Value} {w' : World} (hr : (Builtin.copy_ #[dT, sT] o.type #[v, u]).run P w = .ok v' w') (hK : K (a.put o.dst v') w') :
    if Region.wanted o (yielded ops a.tmps) = true then Oper.wp P o a w K Q else E := by
  have hw : Region.wanted o (yielded ops a.tmps) = true := by simp [Region.wanted, hg]
  rw [if_pos hw]
  unfold Oper.wp
  simp [execOp, hop, resolve, invoke, builtin, hd, hx, hr, Result.andThen]
  exact hK
end

set_option maxHeartbeats 4000000 in
set_option maxRecDepth 100000 in
/-- There is room: in place. -/
theorem insert_shift (b n c vb m vc : Nat) (cs vs : List Value) (w : World) (hi : 0 < n) (hm : 0 < m) (hroom : n + m ≤ c) (hc63 : c ≤ 9223372036854775807) (hvb : vb ≠ b)
    (hcl : cs.length = n) (hvl : vs.length = m)
    (hcs : ∀ j v, cs[j]? = some v → w.cell? ⟨b, j, none⟩ = some v) (hsp : ∀ j, j < n + m → (w.cell? ⟨b, j, none⟩).isSome = true) (hfz : ∀ j, j < n + m → w.frozen? ⟨b, j, none⟩ = false)
    (hvs : ∀ j v, vs[j]? = some v → w.cell? ⟨vb, j, none⟩ = some v) (h1c : ∀ v ∈ cs, v.oneCell' = true) (h1v : ∀ v ∈ vs, v.oneCell' = true)
    (tA tB : TypeId) (kA kB : Nat) (hsa : w.shape? vb = some (tA, kA)) (hsb : w.shape? b = some (tB, kB)) (hkB : kB ≠ 0) (hfa : w.frozen? ⟨vb, 0, none⟩ = false) (hfe : w.frozen? ⟨vb, kA, none⟩ = false) :
    Calls Yba.prog 21 #[.slice (some ⟨b, 0, none⟩) n c, .int .i64 0, .slice (some ⟨vb, 0, none⟩) m vc] w fun e w' =>
      e = .returned (.slice (some ⟨b, 0, none⟩) (n + m) c) ∧ w' = (w.drew.setCells b m cs).setCells b 0 vs := by
  have hz1 : ¬ ((m : Int) = 0) := by omega
  have hz2 : ¬ ((0 : Int) = (n : Int)) := by omega
  have hsz : (Yba.prog.info? 40).map (·.size) = some 1 := by kernel_rfl
  have hz22 : ∀ w, (Go.sizeOf 40).run Yba.prog w = .ok 1 w := fun _ => by kernel_rfl
  have hov : ∀ lb cb, (callFunc 28 #[.slice (some ⟨vb, 0, none⟩) m vc, .slice (some ⟨b, m, none⟩) lb cb]).run Yba.prog w = .ok (.value (.bool false)) w := fun lb cb => by
    rw [run_callFunc_extern Yba.func28 (by kernel_rfl) (by kernel_rfl) (by kernel_rfl) (e := Extern.SlicesOverlaps.overlaps #[71, 71] #[4]) (by kernel_rfl),
      Lib.run_overlaps_apart w 71 4 40 Yba.underlying71 1 hz22 ⟨vb, 0, none⟩ ⟨b, m, none⟩ m vc lb cb hvb tA tB kA kB hsa hsb hkB hfa hfe]
    rfl
  have hcp1 : ∀ ty dc sc, (Builtin.copy_ #[71, 71] ty #[.slice (some ⟨b, m, none⟩) n dc, .slice (some ⟨b, 0, none⟩) (n + m) sc]).run Yba.prog w.drew = .ok (goInt cs.length) (w.drew.setCells b m cs) := fun ty dc sc =>
    run_copy_cells w.drew _ _ ty 40 b m n dc ⟨b, 0, none⟩ (n + m) sc cs Yba.underlying71 hsz (by rw [hcl]; simp only [Nat.min_def]; split <;> omega)
      (fun j v hj => by rw [Addr.add_lit, Nat.zero_add]; exact hcs j v hj)
      (fun j hj => hsp _ (by omega)) (fun j hj => hfz _ (by omega)) h1c
  obtain ⟨W1, hW1⟩ : ∃ W1, W1 = w.drew.setCells b m cs := ⟨_, rfl⟩
  have hsp1 : ∀ k, k < n + m → (W1.cell? ⟨b, k, none⟩).isSome = true := fun k hk => by
    rw [hW1]
    by_cases hin : m ≤ k ∧ k < m + cs.length
    · have := World.cell?_setCells_in b cs m w.drew (fun j hj => hsp _ (by omega)) (k - m) (by omega)
      rw [show m + (k - m) = k by omega] at this
      rw [this]; rfl
    · rw [World.cell?_setCells_out b cs m w.drew ⟨b, k, none⟩ (fun _ _ => by show k < m ∨ m + cs.length ≤ k; omega)]
      exact hsp k hk
  have hcp2 : ∀ (W : World), (∀ x, W.cell? x = W1.cell? x) → (∀ x, W.frozen? x = W1.frozen? x) → ∀ ty dc, (Builtin.copy_ #[71, 71] ty #[.slice (some ⟨b, 0, none⟩) (n + m) dc, .slice (some ⟨vb, 0, none⟩) m vc]).run Yba.prog W = .ok (goInt vs.length) (W.setCells b 0 vs) := fun W hWc hWf ty dc =>
    run_copy_cells W _ _ ty 40 b 0 (n + m) dc ⟨vb, 0, none⟩ m vc vs Yba.underlying71 hsz (by rw [hvl]; simp only [Nat.min_def]; split <;> omega)
      (fun j v hj => by
        rw [Addr.add_lit, Nat.zero_add, hWc, hW1, World.cell?_setCells_out b _ _ _ _ (fun h _ => absurd h hvb)]
        exact hvs j v hj)
      (fun j hj => by rw [hWc]; exact hsp1 _ (by omega)) (fun j hj => by rw [hWf, hW1, World.frozen?_setCells]; exact hfz _ (by omega)) h1v
  rw [← hW1] at hcp1
  have hb2 : ¬ (c = m) := by omega
  have hb4 : ¬ (c = 0) := by omega
  have hw1 : IntKind.i64.wrap (m : Int) = (m : Int) := by rw [IntKind.wrap_i64]; omega
  have hb1 : (0 : Int) ≤ (m : Int) := by omega
  have hb3 : (m : Int) ≤ (n : Int) + (m : Int) := by omega
  have hb5 : (0 : Int) ≤ (n : Int) + (m : Int) := by omega
  go_enter Yba.func21, Yba.ntmps21
  go_wp2_with (simp only [hov])
  go_region_law (refine step_copy_run rfl _ _ 71 71 rfl _ _ (by simp [Act.eval, Act.put]) (by simp [Act.eval, Act.put]) (hcp1 _ _ _) ?_)
  go_wp2_with (at_builtin; refine wpList_copy_run _ rfl _ _ 71 71 rfl _ _ rfl rfl (hcp2 _ (fun _ => rfl) (fun _ => rfl) _ _) ?_)
  go_ret
  first | exact ⟨rfl, rfl⟩ | exact ⟨rfl, by rw [hW1]⟩

set_option maxHeartbeats 4000000 in
set_option maxRecDepth 100000 in
/-- There is no room: a new row. -/
theorem insert_grow (b n c vb m vc : Nat) (cs vs : List Value) (w : World) (hi : 0 < n) (hm : 0 < m) (hnc : n ≤ c) (hroom : c < n + m) (hbig : (n + m) * 8 ≤ 140737488355328)
    (hcl : cs.length = n) (hvl : vs.length = m)
    (hcs : ∀ j v, cs[j]? = some v → w.cell? ⟨b, j, none⟩ = some v)
    (hvs : ∀ j v, vs[j]? = some v → w.cell? ⟨vb, j, none⟩ = some v) (h1c : ∀ v ∈ cs, v.oneCell' = true) (h1v : ∀ v ∈ vs, v.oneCell' = true) :
    Calls Yba.prog 21 #[.slice (some ⟨b, 0, none⟩) n c, .int .i64 0, .slice (some ⟨vb, 0, none⟩) m vc] w fun e w' =>
      ∃ (G : Nat) (ROW : Array Value), n + m ≤ G ∧ G ≤ maxLen ∧ ROW.size = G ∧ e = .returned (.slice (some ⟨w.heap.size, 0, none⟩) (n + m) G) ∧
      w' = (((w.alloc (.cells ROW 40)).drew.setCells w.heap.size 0 vs).drew).setCells w.heap.size m cs := by
  obtain ⟨i0, hi0, hz0, hzs, hzb⟩ := info_parts info22
  have hz1 : ¬ ((m : Int) = 0) := by omega
  have hz2 : ¬ ((0 : Int) = (n : Int)) := by omega
  have hz3 : (c : Int) < (n : Int) + (m : Int) := by omega
  have hsz : (Yba.prog.info? 40).map (·.size) = some 1 := by rw [hi0]; simp [hzs]
  have hbw : b < w.heap.size := World.block_lt_of_cell? w _ (hcs 0 _ (List.getElem?_eq_getElem (by omega)))
  have hvw : vb < w.heap.size := World.block_lt_of_cell? w _ (hvs 0 _ (List.getElem?_eq_getElem (by omega)))
  have hold : (Builtin.firstCells i0.size 0 (.slice (some ⟨b, 0, none⟩) 0 c)).run Yba.prog w.drew = .ok ([] : List Value).toArray w.drew := by
    rw [hzs]
    exact run_firstCells_some w.drew 1 0 ⟨b, 0, none⟩ 0 c [] rfl (fun j v hj => by simp at hj)
  have hrz : ∀ ty, (Builtin.append_ #[71, 3] ty #[.slice (some ⟨b, 0, none⟩) 0 c, .int .i64 ((n : Int) + (m : Int))]).run Yba.prog w =
      .ok (.slice (some ⟨w.heap.size, 0, none⟩) (n + m) (grownCap w (n + m) c 40)) (w.drew.alloc (.cells (([] : List Value).toArray ++ Builtin.zeroCells (Value.int .u64 0).cells (n + m) ++ Builtin.zeroCells (Value.int .u64 0).cells (grownCap w (n + m) c 40 - (n + m))) 40)) := fun ty => by
    have h := Lib.run_append_grow_zeros w 71 3 ty 40 i0 _ .i64 .i64 Yba.underlying71 Yba.underlying3 hi0 hz0 (some ⟨b, 0, none⟩) 0 c [] hold (n + m) (by omega) (by omega) (by omega) (by omega) (by rw [hzb]; omega) (by rw [hzb, Nat.zero_add]; exact growslice_fits hroom hbig)
    rw [Nat.zero_add] at h
    rw [show (n : Int) + (m : Int) = ((n + m : Nat) : Int) by omega]
    exact h
  obtain ⟨G, hG⟩ : ∃ G, G = grownCap w (n + m) c 40 := ⟨_, rfl⟩
  obtain ⟨ROW, hROW⟩ : ∃ ROW : Array Value, ROW = ([] : List Value).toArray ++ Builtin.zeroCells (Value.int .u64 0).cells (n + m) ++ Builtin.zeroCells (Value.int .u64 0).cells (G - (n + m)) := ⟨_, rfl⟩
  rw [← hG] at hrz
  rw [← hROW] at hrz
  have hGn : n + m ≤ G := by rw [hG]; exact grownCap_ge w _ _ _
  have hGm : G ≤ maxLen := by rw [hG]; exact grownCap_le_maxLen w (n + m) c 40 (by unfold maxLen; omega)
  have hRs : ROW.size = G := by
    rw [hROW]
    simp [Builtin.zeroCells, Value.cells]
    omega
  obtain ⟨W1, hW1⟩ : ∃ W1, W1 = w.drew.alloc (.cells ROW 40) := ⟨_, rfl⟩
  rw [← hW1] at hrz
  have hN : ∀ j, j < n + m → (W1.cell? ⟨w.heap.size, j, none⟩).isSome = true := fun j hj => by
    rw [hW1, World.cell?_alloc_at (w := w.drew) ROW _ w.heap.size j rfl, Array.getElem?_eq_getElem (by omega)]; rfl
  have hNf : ∀ j, W1.frozen? ⟨w.heap.size, j, none⟩ = false := fun j => by rw [hW1]; exact World.frozen?_alloc_at (w := w.drew) ROW _ w.heap.size j rfl
  have hOb : ∀ j v, w.cell? ⟨b, j, none⟩ = some v → W1.cell? ⟨b, j, none⟩ = some v := fun j v h => by rw [hW1, World.cell?_alloc_past (w := w.drew) _ b j hbw]; exact h
  have hOv : ∀ j v, w.cell? ⟨vb, j, none⟩ = some v → W1.cell? ⟨vb, j, none⟩ = some v := fun j v h => by rw [hW1, World.cell?_alloc_past (w := w.drew) _ vb j hvw]; exact h
  have hcpA : ∀ (W : World), (∀ x, W.cell? x = W1.cell? x) → (∀ x, W.frozen? x = W1.frozen? x) → ∀ ty dc, (Builtin.copy_ #[71, 71] ty #[.slice (some ⟨w.heap.size, 0, none⟩) (n + m) dc, .slice (some ⟨vb, 0, none⟩) m vc]).run Yba.prog W = .ok (goInt vs.length) (W.setCells w.heap.size 0 vs) := fun W hWc hWf ty dc =>
    run_copy_cells W _ _ ty 40 w.heap.size 0 (n + m) dc ⟨vb, 0, none⟩ m vc vs Yba.underlying71 hsz (by rw [hvl]; simp only [Nat.min_def]; split <;> omega)
      (fun j v hj => by rw [Addr.add_lit, Nat.zero_add, hWc]; exact hOv _ v (hvs j v hj))
      (fun j hj => by rw [hWc]; exact hN _ (by omega)) (fun j hj => by rw [hWf]; exact hNf _) h1v
  have hG63 : G ≤ 9223372036854775807 := by unfold maxLen at hGm; omega
  have hGi : ¬ (G = 0) := by omega
  have hGim : ¬ (G = m) := by omega
  have hci : ¬ (c = 0) := by omega
  have hbN : b ≠ w.heap.size := by omega
  have hcpB : ∀ (W : World), (∀ x, W.cell? x = (W1.setCells w.heap.size 0 vs).cell? x) → (∀ x, W.frozen? x = (W1.setCells w.heap.size 0 vs).frozen? x) → ∀ ty dc sc, (Builtin.copy_ #[71, 71] ty #[.slice (some ⟨w.heap.size, m, none⟩) n dc, .slice (some ⟨b, 0, none⟩) n sc]).run Yba.prog W = .ok (goInt cs.length) (W.setCells w.heap.size m cs) := fun W hWc hWf ty dc sc =>
    run_copy_cells W _ _ ty 40 w.heap.size m n dc ⟨b, 0, none⟩ n sc cs Yba.underlying71 hsz (by rw [hcl]; simp only [Nat.min_def]; split <;> omega)
      (fun j v hj => by
        rw [Addr.add_lit, Nat.zero_add, hWc, World.cell?_setCells_out _ _ _ _ _ (fun h _ => absurd h hbN)]
        exact hOb _ v (hcs j v hj))
      (fun j hj => by
        rw [hWc]
        by_cases hin : m + j < 0 + vs.length
        · have := World.cell?_setCells_in w.heap.size vs 0 W1 (fun t ht => hN _ (by omega)) (m + j) (by omega)
          rw [Nat.zero_add] at this
          rw [this]; rfl
        · rw [World.cell?_setCells_out w.heap.size vs 0 W1 ⟨w.heap.size, m + j, none⟩ (fun _ _ => by show m + j < 0 ∨ 0 + vs.length ≤ m + j; omega)]
          exact hN _ (by omega))
      (fun j hj => by rw [hWf, World.frozen?_setCells]; exact hNf _) h1c
  subst hW1
  have hE1 : ∀ x, ((w.alloc (.cells ROW 40)).drew).cell? x = (w.drew.alloc (.cells ROW 40)).cell? x := fun x => rfl
  have hE2 : ∀ x, ((w.alloc (.cells ROW 40)).drew).frozen? x = (w.drew.alloc (.cells ROW 40)).frozen? x := fun x => rfl
  have hF1 : ∀ x, (((w.alloc (.cells ROW 40)).drew.setCells w.heap.size 0 vs).drew).cell? x = ((w.drew.alloc (.cells ROW 40)).setCells w.heap.size 0 vs).cell? x := fun x => rfl
  have hF2 : ∀ x, (((w.alloc (.cells ROW 40)).drew.setCells w.heap.size 0 vs).drew).frozen? x = ((w.drew.alloc (.cells ROW 40)).setCells w.heap.size 0 vs).frozen? x := fun x => rfl
  have hw1 : IntKind.i64.wrap (m : Int) = (m : Int) := by rw [IntKind.wrap_i64]; omega
  have hb1 : (0 : Int) ≤ (m : Int) := by omega
  have hb3 : (m : Int) ≤ (n : Int) + (m : Int) := by omega
  have hb5 : (0 : Int) ≤ (n : Int) + (m : Int) := by omega
  have hb6 : (0 : Int) ≤ (n : Int) := by omega
  have HG : Hid (n + m ≤ G ∧ G ≤ maxLen ∧ ROW.size = G) := ⟨hGn, hGm, hRs⟩
  clear hold hROW hG hRs
  go_enter Yba.func21, Yba.ntmps21
  go_wp2_with (first
    | (at_builtin; refine Lib.wpList_append_run _ rfl _ _ _ _ rfl _ _ rfl rfl _ _ (hrz _) ?_)
    | (at_builtin; refine wpList_copy_run _ rfl _ _ 71 71 rfl _ _ rfl rfl (hcpA _ hE1 hE2 _ _) ?_))
  go_region_law (refine step_copy_run rfl _ _ 71 71 rfl (.slice (some ⟨w.heap.size, m, none⟩) n (G - m)) (.slice (some ⟨b, 0, none⟩) n c) (by simp [Act.eval, Act.put]) (by simp [Act.eval, Act.put]) (hcpB _ hF1 hF2 _ (G - m) c) ?_)
  go_wp2
  go_ret
  exact ⟨G, ROW, HG.out.1, HG.out.2.1, HG.out.2.2, rfl, rfl⟩

end Go.Proofs.Ybulkcuks
