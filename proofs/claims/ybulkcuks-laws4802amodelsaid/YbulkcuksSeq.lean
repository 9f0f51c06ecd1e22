/-
  zzs4802aseq$1: the list handed out, each page logged first.
-/
import Derived.Test.YbulkcuksInit
import Derived.Test.YbulkcuksRange
import Derived.RangeFuncBox
import Derived.Shelf.Abstract
import Derived.Shelf.RegionOpen
import Derived.OwnWalkIn
import Derived.TacticsInMore
import Derived.LoopNIn
import Derived.LoopIn
import Derived.Deep.RegionLaw
namespace Go.Proofs.Ybulkcuks
open Go.RowKit Go.Shelf
attribute [local go_sem] Oper.semAt_some

def enc32 (x : Nat) : Value := .int .u32 (x : Nat)

/-- The list, the log and the closure's two boxes. -/
structure Lg (W : World) (ib lgb gb lsb base : Nat) (L pre : List Nat) : Prop where
  ci : W.cell? ⟨ib, 0, none⟩ = some (.slice (some ⟨lsb, 0, none⟩) L.length L.length)
  cp : W.cell? ⟨lgb, 0, none⟩ = some (.pointer (some ⟨gb, 0, none⟩))
  row : ∀ k, k < L.length → W.cell? ⟨lsb, k, none⟩ = some (.int .u32 (L.getD k 0 : Nat))
  log : ∃ v, Boxed W gb 70 v ∧ W.ownsRow base 67 1 v pre.length (pre.map enc32)
  hb : base ≤ W.heap.size
  gi : ib ≠ gb
  gl : lgb ≠ gb
  gs : lsb ≠ gb
  ni : ib < base
  nl : lgb < base
  ns : lsb < base

theorem step_append_run {P : Program} {ops : Array Oper} {o : Oper} {a : Act} {w : World} {K : Act → World → Prop} {Q : Exit → Act → World → Prop} {E : Prop}
    (hg : o.guard = none) (d x : Operand) (dT sT : TypeId) (hop : o.op = Op.call { callee := Callee.builtin Builtin.append, args := #[d, x], argTypes := #[dT, sT] })
    (v u : Value) (hd : a.eval d = v) (hx : a.eval x = u) {v' : Value} {w' : World} (hr : (Builtin.append_ #[dT, sT] o.type #[v, u]).run P w = .ok v' w') (hK : K (a.put o.dst v') w') :
    if Region.wanted o (yielded ops a.tmps) = true then Oper.wp P o a w K Q else E := by
  have hw : Region.wanted o (yielded ops a.tmps) = true := by simp [Region.wanted, hg]
  rw [if_pos hw]
  unfold Oper.wp
  simp [execOp, hop, resolve, invoke, builtin, hd, hx, hr, Result.andThen]
  exact hK

/-- The append of one page, as a run. -/
theorem log_append (W : World) (base x : Nat) (pre : List Nat) (v : Value) (hrow : W.ownsRow base 67 1 v pre.length (pre.map enc32)) (hb : base ≤ W.heap.size) (hl : pre.length < 1024) :
    ∃ v' w1, (Builtin.append_ #[70, 70] 70 #[v, .slice (some ⟨W.heap.size, 0, none⟩) 1 1]).run Yba.prog (W.alloc (.cells #[.int .u32 (x : Nat)] 67)) = .ok v' w1 ∧ w1.ownsRow base 67 1 v' (pre.length + 1) ((pre ++ [x]).map enc32) ∧ (W.alloc (.cells #[.int .u32 (x : Nat)] 67)).grownBy w1 v.ownBlock := by
  have hinfo : (Yba.prog.info? 67).map (fun i => (i.zero, i.size, i.bytes)) = some (some (.int .u32 0), 1, 4) := by kernel_rfl
  obtain ⟨i, hi, hzz⟩ := Option.map_eq_some_iff.1 hinfo
  simp only [Prod.mk.injEq] at hzz
  obtain ⟨hz, hs, hbb⟩ := hzz
  have hc : (W.alloc (.cells #[.int .u32 (x : Nat)] 67)).heap[W.heap.size]? = some (.cells #[.int .u32 (x : Nat)] 67 (0, 0)) := heap_alloc_new W _
  obtain ⟨v', w1, hr, ho, hg, _⟩ := run_append_own (P := Yba.prog) (W.alloc (.cells #[.int .u32 (x : Nat)] 67)) base 70 70 67 i (.int .u32 0) 1 4 Yba.underlying70 hi hz hs hbb rfl (by omega) v pre.length (pre.map enc32) (hrow.alloc _) ⟨W.heap.size, 0, none⟩ 1 1 [.int .u32 (x : Nat)] rfl
    (fun j u hj => by
      match j, hj with
      | 0, hj => simp at hj; subst hj; rw [Addr.add_lit]; rw [cell_of_row _ W.heap.size _ _ 67 (0, 0) hc]; rfl)
    (fun u hu => by simp at hu; subst hu; rfl) (by unfold maxLen; omega) (by omega) (by simp; omega)
  exact ⟨v', w1, hr, by rw [List.map_append]; exact ho, hg⟩

/-- behind the append and its store -/
theorem log_step {W w1 : World} {D : Nat} {r : Loop} {ib lgb gb lsb base x : Nat} {L pre : List Nat} {v v' : Value} (hLg : Lg W ib lgb gb lsb base L pre) (hR : Rec D r W) (hbox : Boxed W gb 70 v) (hown : W.ownsRow base 67 1 v pre.length (pre.map enc32))
    (hb2 : Boxed (w1.setCell ⟨gb, 0, none⟩ v') gb 70 v') (hb3 : (w1.setCell ⟨gb, 0, none⟩ v').ownsRow base 67 1 v' (pre.length + 1) ((pre ++ [x]).map enc32)) (hg : (W.drew.alloc (.cells #[.int .u32 (x : Nat)] 67)).grownBy w1 v.ownBlock) :
    Lg (w1.setCell ⟨gb, 0, none⟩ v') ib lgb gb lsb base L (pre ++ [x]) ∧ Rec D r (w1.setCell ⟨gb, 0, none⟩ v') ∧
      (∀ i, i < W.heap.size → i ≠ gb → v.ownBlock ≠ some i → (w1.setCell ⟨gb, 0, none⟩ v').heap[i]? = W.heap[i]?) ∧ W.heap.size ≤ (w1.setCell ⟨gb, 0, none⟩ v').heap.size ∧ (w1.setCell ⟨gb, 0, none⟩ v').os = W.os ∧ (w1.setCell ⟨gb, 0, none⟩ v').tape = W.tape ∧ (w1.setCell ⟨gb, 0, none⟩ v').output = W.output := by
  have hblk : ∀ i, i < W.heap.size → i ≠ gb → v.ownBlock ≠ some i → (w1.setCell ⟨gb, 0, none⟩ v').heap[i]? = W.heap[i]? := fun i hi h1 h2 =>
    (Below.heap_setCell w1 ⟨gb, 0, none⟩ v' i h1).trans ((hg.block i (by simp; omega) (fun e => h2 e.symm)).trans (Below.heap_alloc W.drew _ i hi))
  have hsz : W.heap.size ≤ (w1.setCell ⟨gb, 0, none⟩ v').heap.size := by
    have h1 : (w1.setCell ⟨gb, 0, none⟩ v').heap.size = w1.heap.size := by simp [World.setCell]
    have h2 := hg.size
    simp at h2
    omega
  have hlow : ∀ i, i < base → i ≠ gb → (w1.setCell ⟨gb, 0, none⟩ v').heap[i]? = W.heap[i]? := fun i hi hne => hblk i (by have := hLg.hb; omega) hne (fun e => by have := (hown.lt i e).1; omega)
  have hnc : ∀ (i : Nat) (o : Obj), W.heap[i]? = some o → o.isCells = false → (w1.setCell ⟨gb, 0, none⟩ v').heap[i]? = W.heap[i]? := fun i o hi ho => hblk i (Array.getElem?_eq_some_iff.1 hi).1
    (fun e => by rw [e] at hi; have := (show W.heap[gb]? = _ from hbox); rw [this] at hi; cases hi; cases ho)
    (fun e => by
      obtain ⟨cur, hcur⟩ := ownsRow_cells hown e
      rw [hcur] at hi; cases hi; cases ho)
  refine ⟨⟨(World.cell?_of_block (a := ⟨ib, 0, none⟩) (hlow ib hLg.ni hLg.gi)).trans hLg.ci, (World.cell?_of_block (a := ⟨lgb, 0, none⟩) (hlow lgb hLg.nl hLg.gl)).trans hLg.cp, fun k hk => (World.cell?_of_block (a := ⟨lsb, k, none⟩) (hlow lsb hLg.ns hLg.gs)).trans (hLg.row k hk),
    ⟨v', hb2, by rw [List.length_append]; exact hb3⟩, Nat.le_trans hLg.hb hsz, hLg.gi, hLg.gl, hLg.gs, hLg.ni, hLg.nl, hLg.ns⟩, hR.keep (hnc _ _ hR.1 rfl) (hnc _ _ hR.2 rfl), hblk, hsz, hg.os, hg.tape, hg.output⟩

set_option maxHeartbeats 4000000 in
theorem seq_runs {n D : Nat} {r : Loop} {W1 : World} {ib lgb gb lsb base : Nat} {L : List Nat} (hn : 1 ≤ n) (G : List Nat → World → Prop) (hL : L.length ≤ 1024)
    (hGs : ∀ pre v W W', G pre W → Boxed W gb 70 v → W.ownsRow base 67 1 v pre.length (pre.map enc32) → (∀ i, i < W.heap.size → i ≠ gb → v.ownBlock ≠ some i → W'.heap[i]? = W.heap[i]?) → W.heap.size ≤ W'.heap.size → W'.os = W.os → W'.tape = W.tape → W'.output = W.output → G pre W')
    (hY : ∀ pre x W, (Lg W ib lgb gb lsb base L (pre ++ [x]) ∧ G pre W ∧ L[pre.length]? = some x ∧ pre = L.take pre.length) → Rec D r W → YieldAt Fence.wide (n - 1) Yba.prog (D + 1) #[enc32 x] W fun e W' => e = .returned (.bool true) ∧ (Lg W' ib lgb gb lsb base L (pre ++ [x]) ∧ G (pre ++ [x]) W') ∧ Rec D r W')
    (h0 : Lg W1 ib lgb gb lsb base L [] ∧ G [] W1) (hR : Rec D r W1) :
    CallsIn Fence.wide n Yba.prog 17 (#[.func (.yield (D + 1)) #[] #[]] ++ #[.pointer (some ⟨ib, 0, none⟩), .pointer (some ⟨lgb, 0, none⟩)]) W1 fun e W' => (∃ v, e = .returned v) ∧ ∃ xs, xs = L ∧ (Lg W' ib lgb gb lsb base L xs ∧ G xs W') ∧ Rec D r W' := by
  refine callsIn_of_wp Yba.func17 rfl trivial ?_ rfl
  simp only [Yba.ntmps17, List.size_toArray, List.length_cons, List.length_nil, Nat.reduceAdd, Nat.reduceSub, Array.replicate_succ, Array.replicate_zero, List.push_toArray, List.append_toArray, List.nil_append, List.cons_append]
  have ci := h0.1.ci
  have H0 := hid (And.intro h0 hR)
  have HY := hid hY
  have HG := hid hGs
  clear h0 hR hY hGs
  gi_wp2
  gi_loopw [8] (fun c wr => ∃ k : Nat, k ≤ L.length ∧ c = .int .i64 k ∧ (Lg wr ib lgb gb lsb base L (L.take k) ∧ G (L.take k) wr) ∧ Rec D r wr) (fun c _ => L.length - (intOf c).toNat)
  case atStart => exact ⟨0, Nat.zero_le _, rfl, H0.out.1, H0.out.2⟩
  case round =>
    obtain ⟨k, hk, rfl, ⟨hLg, hG⟩, hR⟩ := hrel
    by_cases hlt : k < L.length
    · have hrow := hLg.row k hlt
      have hcp := hLg.cp
      have hlen : (L.take k).length = k := by rw [List.length_take]; omega
      obtain ⟨v, hbox, hown⟩ := hLg.log
      have hgc := hbox.cell
      have hgz := hbox.frozen
      have h3 : (k : Int) < L.length := by omega
      have hgl := hbox.lt
      obtain ⟨x, hxk⟩ : ∃ x, x = L.getD k 0 := ⟨_, rfl⟩
      rw [← hxk] at hrow
      have hxs : L[(L.take k).length]? = some x := by rw [hlen, hxk, List.getD_eq_getElem?_getD, List.getElem?_eq_getElem hlt]; rfl
      obtain ⟨v', w1, hr, ho, hg⟩ := log_append wr.drew base x (L.take k) v hown hLg.hb (by omega)
      have hb1 : Boxed w1 gb 70 v := (Boxed.alloc (W := wr.drew) hbox _).kept hg (Boxed.not_row (W := wr.drew) hbox (by decide) hown)
      have hb2 := hb1.set v'
      have hb3 := ho.kept (grownBy_setCell' w1 gb v') (.inr (hb1.not_row (by decide) ho).symm)
      obtain ⟨g', cap', rfl⟩ := ownsRow_succ ho
      have hr' : (Builtin.append_ #[70, 70] 70 #[v, .slice (some ⟨wr.heap.size, 0, none⟩) 1 1]).run Yba.prog ((wr.alloc (.cells #[.int .u32 (x : Nat)] 67)).drew) = .ok (.slice (some ⟨g', 0, none⟩) ((L.take k).length + 1) cap') w1 := hr
      have HR := hid hr'
      have c1 := hb1.cell
      have z1 := hb1.frozen
      have hll : lgb < wr.heap.size := World.block_lt_of_cell? wr ⟨lgb, 0, none⟩ hcp
      have c1l : w1.cell? ⟨lgb, 0, none⟩ = some (.pointer (some ⟨gb, 0, none⟩)) := by
        have hne : some lgb ≠ v.ownBlock := fun e => by have := (hown.lt lgb e.symm).1; have := hLg.nl; omega
        exact (World.cell?_of_block (a := ⟨lgb, 0, none⟩) ((hg.block lgb (by simp; omega) hne).trans (Below.heap_alloc wr.drew _ lgb hll))).trans hcp
      have HK := hid (And.intro hLg (And.intro hG hR))
      have HB := hid (And.intro hb2 (And.intro hb3 hg))
      have HX := hid (And.intro hxs hlen)
      have HO := hid (And.intro hbox hown)
      clear hLg hG hR ci hr hr' hb1 hb2 hb3 hg ho hbox hown hxs hxk
      obtain ⟨hL2, hR2, hblk, hsz, hos, htp, hou⟩ := log_step HK.out.1 HK.out.2.2 HO.out.1 HO.out.2 HB.out.1 HB.out.2.1 HB.out.2.2
      have hG2 := HG.out (L.take k) v wr _ HK.out.2.1 HO.out.1 HO.out.2 hblk hsz hos htp hou
      obtain ⟨fn, tmps, assign, body, hy, hRR⟩ := HY.out (L.take k) x _ ⟨hL2, hG2, HX.out.1, by rw [hlen]⟩ hR2
      rw [hlen] at hy hRR
      have htk : L.take k ++ [x] = L.take (k + 1) := by
        have h1 := HX.out.1
        rw [hlen] at h1
        rw [List.take_add_one, h1]; rfl
      rw [htk] at hRR
      have HRR := hid hRR
      simp only [enc32] at hy
      clear hL2 hR2 hblk hsz hos htp hou hG2 hRR htk HO HB HX HK HG HY H0
      gi_wp2
      refine wpIn_wide.2 ?_
      go_region_law (refine step_append_run rfl _ _ 70 70 rfl _ _ rfl rfl HR.out ?_)
      all_goals
        gi_wp2_with (refine HRR.out.mono ?_; rintro e W3 ⟨rfl, hI3, hR3⟩)
        go_roundw
        case rel => exact ⟨k + 1, by omega, by go_num, hI3, hR3⟩
        case measure => simp [intOf]; omega
    · obtain rfl : k = L.length := by omega
      have HK := hid (And.intro hLg (And.intro hG hR))
      clear hLg hG hR ci
      gi_wp2
      go_end0
      obtain ⟨hLg, hG, hR⟩ := HK.out
      rw [List.take_length] at hLg hG
      exact ⟨⟨_, rfl⟩, L, rfl, ⟨hLg, hG⟩, hR⟩

end Go.Proofs.Ybulkcuks
