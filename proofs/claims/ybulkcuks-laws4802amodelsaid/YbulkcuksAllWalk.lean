/-
  unusedAll's walk.
-/
import Derived.Test.YbulkcuksBook
namespace Go.Proofs.Ybulkcuks
open Go.RowKit Go.Shelf
attribute [local go_sem] Oper.semAt_some

/-- the world where the loop begins -/
def W0 (w : World) (pb : Nat) : World := (w.alloc (.cells #[.pointer (some ⟨pb, 0, none⟩)] 66)).alloc (.cells #[.bool false] 4)

/-- what unusedAll wants of the world -/
structure AllSt (w : World) (pb cb fb tb eb base ib lgb gb lsb : Nat) (own0 : List Nat) (R0 : Nat → Bool) (L : List Nat) : Prop where
  pg : PgS w pb cb fb tb eb base own0 (fun _ => false) (fun _ => false) R0 0
  ci : w.cell? ⟨ib, 0, none⟩ = some (.slice (some ⟨lsb, 0, none⟩) L.length L.length)
  cp : w.cell? ⟨lgb, 0, none⟩ = some (.pointer (some ⟨gb, 0, none⟩))
  row : ∀ k, k < L.length → w.cell? ⟨lsb, k, none⟩ = some (.int .u32 (L.getD k 0 : Nat))
  log : Boxed w gb 70 (.slice none 0 0)
  gi : ib ≠ gb
  gl : lgb ≠ gb
  gs : lsb ≠ gb
  ni : ib < w.heap.size
  nl : lgb < w.heap.size
  ns : lsb < w.heap.size
  gpb : pb ≠ gb
  gcb : cb ≠ gb
  gfb : fb ≠ gb
  gtb : tb ≠ gb
  geb : eb ≠ gb
  len : L.length ≤ 1024
  lt : ∀ x ∈ L, x < 4096
  d : ∀ y, y = ib ∨ y = lgb ∨ y = lsb ∨ y = gb → y < w.heap.size ∧ y ≠ pb ∧ y ≠ fb ∧ y ∉ own0

theorem PgS.olt {W : World} {pb cb fb tb eb base : Nat} {own : List Nat} {F P R : Nat → Bool} {ep : Int} (h : PgS W pb cb fb tb eb base own F P R ep) : (∀ x ∈ own, x < W.heap.size ∧ base ≤ x) ∧ pb < base ∧ fb < base ∧ base ≤ W.heap.size := by
  obtain ⟨o1, o2, o3, hp, rfl⟩ := h
  refine ⟨fun x hx => ?_, hp.lpb, hp.lfb, hp.hb⟩
  simp only [List.mem_append] at hx
  rcases hx with hx | hx | hx
  · exact ⟨(hp.free.olt x hx).1, (hp.free.olt x hx).2.1⟩
  · exact ⟨(hp.pend.olt x hx).1, (hp.pend.olt x hx).2.1⟩
  · exact ⟨(hp.fresh.olt x hx).1, (hp.fresh.olt x hx).2.1⟩

theorem PgS.below {w w' : World} {pb cb fb tb eb base : Nat} {own : List Nat} {F P R : Nat → Bool} {ep : Int} (h : PgS w pb cb fb tb eb base own F P R ep) (hb : Below w.heap.size w w') : PgS w' pb cb fb tb eb base own F P R ep := by
  obtain ⟨o1, o2, o3, hp, rfl⟩ := h
  exact ⟨o1, o2, o3, hp.below hb, rfl⟩

/-- the loop's start -/
theorem all_start {w : World} {pb cb fb tb eb base ib lgb gb lsb : Nat} {own0 : List Nat} {R0 : Nat → Bool} {L : List Nat} (h : AllSt w pb cb fb tb eb base ib lgb gb lsb own0 R0 L) (o1 o2 : Obj) :
    Lg (((W0 w pb).alloc o1).alloc o2) ib lgb gb lsb (w.heap.size + 2) L [] ∧ GS (W0 w pb) (((W0 w pb).alloc o1).alloc o2) pb cb fb tb eb base w.heap.size (w.heap.size + 1) gb own0 R0 [] := by
  have s0 : (W0 w pb).heap.size = w.heap.size + 2 := by simp [W0]
  have b1 : Below (W0 w pb).heap.size (W0 w pb) (((W0 w pb).alloc o1).alloc o2) := ((Below.refl _ _).alloc (Nat.le_refl _) o1).alloc (by simp) o2
  have b0 : Below w.heap.size w (W0 w pb) := ((Below.refl w.heap.size w).alloc (Nat.le_refl _) (.cells #[.pointer (some ⟨pb, 0, none⟩)] 66)).alloc (by simp) (.cells #[.bool false] 4)
  have hb : ∀ i, i < w.heap.size → (((W0 w pb).alloc o1).alloc o2).heap[i]? = w.heap[i]? := fun i hi => (b1.block i (by omega)).trans (b0.block i hi)
  have hz : (((W0 w pb).alloc o1).alloc o2).heap.size = w.heap.size + 4 := by simp [s0]
  have e1 : (w.alloc (.cells #[.pointer (some ⟨pb, 0, none⟩)] 66)).heap.size = w.heap.size + 1 := by simp
  have hp : (((W0 w pb).alloc o1).alloc o2).heap[w.heap.size]? = some (.cells #[.pointer (some ⟨pb, 0, none⟩)] 66 (0, 0)) :=
    (b1.block _ (by omega)).trans ((Below.heap_alloc _ _ _ (by simp)).trans (heap_alloc_new w _))
  have hf : (((W0 w pb).alloc o1).alloc o2).heap[w.heap.size + 1]? = some (.cells #[.bool false] 4 (0, 0)) := by
    refine (b1.block _ (by omega)).trans ?_
    have := heap_alloc_new (w.alloc (.cells #[.pointer (some ⟨pb, 0, none⟩)] 66)) (.cells #[.bool false] 4)
    rw [e1] at this
    exact this
  refine ⟨⟨(World.cell?_of_block (a := ⟨ib, 0, none⟩) (hb ib h.ni)).trans h.ci, (World.cell?_of_block (a := ⟨lgb, 0, none⟩) (hb lgb h.nl)).trans h.cp, fun k hk => (World.cell?_of_block (a := ⟨lsb, k, none⟩) (hb lsb h.ns)).trans (h.row k hk),
    ⟨.slice none 0 0, (hb gb h.log.lt).trans h.log, World.ownsRow_nil _ _ _ _⟩, by rw [hz]; omega, h.gi, h.gl, h.gs, by have := h.ni; omega, by have := h.nl; omega, by have := h.ns; omega⟩, ?_⟩
  refine ⟨⟨own0, ?_, fun x hx => .inl hx⟩, ?_, hf, rfl, rfl, rfl, by rw [hz, s0]; omega, fun i hi _ _ _ _ _ => b1.block i hi⟩
  · exact h.pg.below ⟨rfl, rfl, rfl, by rw [hz]; omega, hb⟩
  · rw [cell_of_row _ w.heap.size 0 _ 66 (0, 0) hp]; rfl

set_option maxHeartbeats 4000000 in
theorem all_calls (w : World) (pb cb fb tb eb base ib lgb gb lsb : Nat) (own0 : List Nat) (R0 : Nat → Bool) (L : List Nat) (h : AllSt w pb cb fb tb eb base ib lgb gb lsb own0 R0 L) :
    Calls Yba.prog 6 #[.pointer (some ⟨pb, 0, none⟩), .func (.func 17) #[] #[.pointer (some ⟨ib, 0, none⟩), .pointer (some ⟨lgb, 0, none⟩)]] w fun e w' => e = .returned (.tuple #[]) ∧
      Lg w' ib lgb gb lsb (w.heap.size + 2) L L ∧ GS (W0 w pb) w' pb cb fb tb eb base w.heap.size (w.heap.size + 1) gb own0 R0 L := by
  have HA := hid h
  clear h
  refine (callsIn_wide (n := 6)).1 ?_
  refine callsIn_of_wp_marks Yba.func6 rfl trivial ?_ rfl
  simp only [Yba.ntmps6, List.size_toArray, List.length_cons, List.length_nil, Nat.reduceAdd, Nat.reduceSub, Array.replicate_succ, Array.replicate_zero, List.push_toArray, List.append_toArray, List.nil_append, List.cons_append]
  gi_wp2_with fail
  have hs0 : (W0 w pb).heap.size = w.heap.size + 2 := by simp [W0]
  change Code.wpIn _ _ _ _ _ _ (W0 w pb)
  refine range_writes rfl (by omega) (gf := 17) (lb := #[.pointer (some ⟨ib, 0, none⟩), .pointer (some ⟨lgb, 0, none⟩)]) rfl trivial (enters_of Yba.func17 (by kernel_rfl) rfl) enc32 rfl
    (fun pre W => Lg W ib lgb gb lsb (w.heap.size + 2) L pre ∧ GS (W0 w pb) W pb cb fb tb eb base w.heap.size (w.heap.size + 1) gb own0 R0 pre)
    (fun pre x W => Lg W ib lgb gb lsb (w.heap.size + 2) L (pre ++ [x]) ∧ GS (W0 w pb) W pb cb fb tb eb base w.heap.size (w.heap.size + 1) gb own0 R0 pre ∧ L[pre.length]? = some x ∧ pre = L.take pre.length)
    (fun xs => xs = L) ?_ ?_ ?_ (fun x => { tmps := #[.pointer (some ⟨pb, 0, none⟩), .func (.func 17) #[] #[.pointer (some ⟨ib, 0, none⟩), .pointer (some ⟨lgb, 0, none⟩)], .pointer (some ⟨w.heap.size, 0, none⟩), undef, .pointer (some ⟨w.heap.size + 1, 0, none⟩), enc32 x, .func (.func 17) #[] #[.pointer (some ⟨ib, 0, none⟩), .pointer (some ⟨lgb, 0, none⟩)], enc32 x, undef, undef, undef, undef, undef, undef, undef, undef, undef, undef, undef, undef, undef], defers := [] }) ?_ ?_ ?_ ?_
  case refine_4 =>
    intro l x W K hK
    gi_wp2
    exact hK
  case refine_6 =>
    intro r W1 hY hI hR
    obtain ⟨_, _, _, hp, _⟩ := HA.out.pg
    have q1 := hp.hb
    exact seq_runs (by omega) (fun pre W => GS (W0 w pb) W pb cb fb tb eb base w.heap.size (w.heap.size + 1) gb own0 R0 pre) HA.out.len
      (fun pre v W W' hG hb ho h1 h2 h3 h4 h5 => hG.logged hb (by rw [hs0]; exact ho) h1 h2 h3 h4 h5 (by omega) (by omega) (by omega) HA.out.gpb HA.out.gcb HA.out.gfb HA.out.gtb HA.out.geb (by have := HA.out.log.lt; omega) (by have := HA.out.log.lt; omega)) hY hI hR
  case refine_7 =>
    rintro xs W rfl ⟨hLg, hG⟩ hD
    have HE := hid (And.intro hLg hG)
    clear hLg hG
    gi_wp2
    refine ⟨by simp, .inl ⟨_, _, rfl, run_takeDeferred hD, ?_⟩⟩
    exact ⟨_, results_none rfl _ _ _, rfl, HE.out.1.put _ hD rfl, HE.out.2.put _ hD rfl (Nat.le_refl _)⟩
  case refine_2 =>
    rintro pre W o r ⟨h1, h2⟩ hl
    exact ⟨h1.put _ hl rfl, h2.put _ hl rfl (by omega)⟩
  case refine_3 =>
    rintro pre x W o r ⟨h1, h2, h3⟩ hl
    exact ⟨h1.put _ hl rfl, h2.put _ hl rfl (by omega), h3⟩
  case refine_1 =>
    intro o1 o2
    exact all_start HA.out o1 o2
  case refine_5 =>
    rintro l pre x W r ⟨hLg, hG, hxs, hpre⟩ hR
    have cw := hG.cw.cell
    have cz := hG.cw.frozen
    have cp := hG.cp
    obtain ⟨own, ⟨o1, o2, o3, hp, rfl⟩, ho⟩ := hG.pg
    have c1 := hp.c1
    have k0 := hp.cache.c0
    have hx4 : x < 4096 := HA.out.lt x (List.mem_of_getElem? hxs)
    obtain ⟨hO, hlp, hlf, hbb⟩ := HA.out.pg.olt
    have hN1 : w.heap.size ∉ own0 := fun hm => by have := (hO _ hm).1; omega
    have hN2 : w.heap.size + 1 ∉ own0 := fun hm => by have := (hO _ hm).1; omega
    have HN := hid (And.intro hlp (And.intro hlf (And.intro hbb (And.intro hN1 hN2))))
    have hf1 : w.heap.size ≠ fb := by omega
    have hf2 : w.heap.size + 1 ≠ fb := by omega
    have HD : Hid (∀ y, y = ib ∨ y = lgb ∨ y = lsb ∨ y = gb → y < (W0 w pb).heap.size ∧ y ≠ pb ∧ y ≠ fb ∧ y ≠ w.heap.size + 1 ∧ y ∉ own0) := fun y hy => by
      obtain ⟨d1, d2, d3, d4⟩ := HA.out.d y hy
      exact ⟨by omega, d2, d3, by omega, d4⟩
    rw [← hs0] at hLg
    have HE := hid (And.intro hLg (And.intro hG hR))
    have HP := hid hp
    clear hLg hG hxs hpre hp ho hR hO hlp hlf hbb hN1 hN2
    by_cases h0 : pre.length = 0
    · have hd : decide (pre.length ≠ 0) = false := by simp [h0]
      rw [hd] at cw
      have hc := HP.out.cache
      rw [if_pos h0] at hc
      have HW := hid (wait_calls W cb fb tb eb hc HP.out.ncf HP.out.ntf HP.out.nef)
      clear hc
      gi_wp2_with (refine ⟨trivial, ?_⟩; gi_at_call 15; refine (CallsIn.inRound l (callsIn_wide.2 HW.out)).mono ?_; rintro e W3 ⟨rfl, hc3, hb3⟩; have cw3 := (World.cell?_of_block (a := ⟨w.heap.size + 1, 0, none⟩) (hb3.block _ hf2)).trans cw; have cz3 := (World.frozen?_of_block (a := ⟨w.heap.size + 1, 0, none⟩) (hb3.block _ hf2)).trans cz; have cp3 := (World.cell?_of_block (a := ⟨w.heap.size, 0, none⟩) (hb3.block _ hf1)).trans cp)
      obtain ⟨own, hM⟩ := HE.out.2.1.waited hc3 hb3 (by have := HN.out.2.2.1; omega) (by omega) hf1 hf2 (by omega) HN.out.2.2.2.2
      have hU := unused_calls _ pb cb fb tb eb base x own _ _ _ 1 hM.pg hx4
      refine ⟨trivial, (CallsIn.inRound l (callsIn_wide.2 hU)).mono ?_⟩
      rintro e W4 ⟨rfl, hu⟩
      obtain ⟨q1, q2, q3, q4⟩ := round_end (x := x) (pp := w.heap.size) (wb := w.heap.size + 1) HE.out.1 HE.out.2.2 (W' := W3.setCell ⟨w.heap.size + 1, 0, none⟩ (.bool true)) (by rw [show (W3.setCell ⟨w.heap.size + 1, 0, none⟩ (.bool true)).heap.size = W3.heap.size by simp [World.setCell]]; exact hb3.size)
        (fun i h1 h2 => (Below.heap_setCell W3 ⟨w.heap.size + 1, 0, none⟩ _ i h2).trans (hb3.block i h1)) hM hu (by have := HN.out.2.2.1; omega) (by omega) (by omega) (by have := HN.out.1; have := HN.out.2.2.1; omega) hf1 (by have := HN.out.1; have := HN.out.2.2.1; omega) hf2 HN.out.2.2.2.1 HN.out.2.2.2.2 HD.out
      clear hu hM hU
      gi_wp2
      rw [hs0] at q1 q2 q3
      exact ⟨q1, q2, q3⟩
    · have hd : decide (pre.length ≠ 0) = true := by simp [h0]
      rw [hd] at cw
      obtain ⟨own, hM⟩ := HE.out.2.1.mid h0
      have HM := hid hM
      have HU := hid (unused_calls _ pb cb fb tb eb base x own _ _ _ 1 hM.pg hx4)
      clear hM
      gi_wp2_with (fail)
      refine ⟨trivial, (CallsIn.inRound l (callsIn_wide.2 HU.out)).mono ?_⟩
      rintro e W4 ⟨rfl, hu⟩
      obtain ⟨q1, q2, q3, q4⟩ := round_end (x := x) (pp := w.heap.size) (wb := w.heap.size + 1) HE.out.1 HE.out.2.2 (W' := W) rfl
        (fun i h1 h2 => rfl) HM.out hu (by have := HN.out.2.2.1; omega) (by omega) (by omega) (by have := HN.out.1; have := HN.out.2.2.1; omega) hf1 (by have := HN.out.1; have := HN.out.2.2.1; omega) hf2 HN.out.2.2.2.1 HN.out.2.2.2.2 HD.out
      clear hu
      gi_wp2
      rw [hs0] at q1 q2 q3
      exact ⟨q1, q2, q3⟩

end Go.Proofs.Ybulkcuks
