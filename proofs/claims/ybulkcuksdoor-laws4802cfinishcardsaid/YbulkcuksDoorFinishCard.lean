/-
  The row of holdfast.LawS4802CFinish, and its tied card.
-/
import Derived.Test.YbulkcuksDoorTop
import Derived.Test.YbulkcuksDoorLawF
import Derived.Test.YbulkcuksDoorLawFBig
import Derived.Test.YbulkcuksDoorTie
import Derived.Test.YbulkcuksDoorCards
import Derived.SevenTiedAt
namespace Go.Proofs.YbulkcuksDoor
open Go.ChangeShapes Go.WideShapes Go.ChangeAt Go.RowKit

/-- The walk, whatever the lengths. -/
theorem finish_walk (o0 o1 o2 o3 o4 o5 m0 m1 m2 m3 m4 m5 : Int) (a0 a1 a2 a3 : Option Addr) (n0 n1 n2 n3 k0 k1 k2 k3 : Nat) (xs ys rs ls : List Nat) (w : World)
    (h0 : Row32 w w.heap.size a0 n0 xs) (h1 : Row32 w w.heap.size a1 n1 ys) (h2 : Row32 w w.heap.size a2 n2 rs) (h3 : Row32 w w.heap.size a3 n3 ls) (hT : TabAt w) (h0b : 0 < w.heap.size) :
    Calls Ybad.prog 3 #[.agg #[.int .u64 o0, .int .u32 o1, .int .u32 o2, .int .u32 o3, .int .u32 o4, .int .i64 o5], .agg #[.int .u64 m0, .int .u32 m1, .int .u32 m2, .int .u32 m3, .int .u32 m4, .int .i64 m5], .slice a0 n0 k0, .slice a1 n1 k1, .slice a2 n2 k2, .slice a3 n3 k3] w fun e w' =>
      e = .returned (.bool true) ∧ Below w.heap.size w w' := by
  by_cases h : 1024 < n0 ∨ 1024 < n1 ∨ 1024 < n2 ∨ 1024 < n3
  · exact law_finish_big o0 o1 o2 o3 o4 o5 m0 m1 m2 m3 m4 m5 a0 a1 a2 a3 n0 n1 n2 n3 k0 k1 k2 k3 w h
  · exact law_finish o0 o1 o2 o3 o4 o5 m0 m1 m2 m3 m4 m5 a0 a1 a2 a3 n0 n1 n2 n3 k0 k1 k2 k3 xs ys rs ls w h0 h1 h2 h3 hT h0b (by omega) (by omega) (by omega) (by omega)

set_option maxRecDepth 100000 in
theorem finish_lifted (os : Os) (started : os.Started) (H : Type) (enc : TypeId × Value → H) :
    ReturnsInHanded {} Ybad.checked os 3 .any (fun w args => (Rows.lawS4802CFinishSpec.pre enc Ybad.prog Ybad.f3 [] false w args ∧ laidMetH Ybad.prog laidT w) ∧ sizedMet enc Ybad.prog Ybad.f3 (OpenSpec.ofChange Rows.lawS4802CFinishSpec) false w args)
      (Rows.lawS4802CFinishSpec.post enc Ybad.prog Ybad.f3 false true false false) := by
  refine returnsInHanded_of_change_and (C := Ybad.checked) (X := fun w _ => laidMetH Ybad.prog laidT w) (fun _ _ _ hh h => h.of_heap hh) own started (by kernel_rfl) Ybad.func3
    (ChangeSpec.witness_shaped (enc := enc) (C := Ybad.checked) (os := os) (X := fun w _ => laidMetH Ybad.prog laidT w) false (World.doorLaid Ybad.prog 400 os) #[.agg #[.int .u64 0, .int .u32 0, .int .u32 0, .int .u32 0, .int .u32 0, .int .i64 0], .agg #[.int .u64 0, .int .u32 0, .int .u32 0, .int .u32 0, .int .u32 0, .int .i64 0], .slice none 0 0, .slice none 0 0, .slice none 0 0, .slice none 0 0] 8 rfl (World.shaped_of_RefB (by kernel_rfl) (by kernel_rfl)) (by kernel_rfl) (by kernel_rfl) (by kernel_rfl) (door_met os _)) ?_
  intro W base args ds gs before hval0 hW _ _ hL _
  have hval : ∀ (j : Nat) t v, Ybad.f3.params[j]? = some t → args[j]? = some v → Value.okWide Ybad.prog W .any base t v := hval0
  have hW' := hW
  obtain ⟨p, q, hA0, hV, rfl, hfz, hnd⟩ := hW
  have hA : DataW.TrodAll enc Ybad.prog W 0 (fun _ => true) true Ybad.f3.params.toList args.toList ds p := hA0
  rw [Ybad.params3] at hA hval
  obtain ⟨v0, vs0, d0, ds0, p0, q0, hargs, rfl, rfl, h0, r0⟩ := trodAll_cons hA
  obtain ⟨v1, vs1, d1, ds1, p1, q1, rfl, rfl, rfl, h1, r1⟩ := trodAll_cons r0
  obtain ⟨v2, vs2, d2, ds2, p2, q2, rfl, rfl, rfl, h2, r2⟩ := trodAll_cons r1
  obtain ⟨v3, vs3, d3, ds3, p3, q3, rfl, rfl, rfl, h3, r3⟩ := trodAll_cons r2
  obtain ⟨v4, vs4, d4, ds4, p4, q4, rfl, rfl, rfl, h4, r4⟩ := trodAll_cons r3
  obtain ⟨v5, vs5, d5, ds5, p5, q5, rfl, rfl, rfl, h5, r5⟩ := trodAll_cons r4
  obtain ⟨rfl, rfl, rfl⟩ := trodAll_nil r5
  obtain rfl : args = #[v0, v1, v2, v3, v4, v5] := by cases args; simp_all
  obtain ⟨rfl, rfl⟩ := trodVars_none hV
  have lt0 : ∀ x ∈ p0, x.block < W.heap.size := by obtain ⟨m, hm⟩ := h0; exact DataW.trod_lt m _ _ _ hm
  have lt1 : ∀ x ∈ p1, x.block < W.heap.size := by obtain ⟨m, hm⟩ := h1; exact DataW.trod_lt m _ _ _ hm
  have lt2 : ∀ x ∈ p2, x.block < W.heap.size := by obtain ⟨m, hm⟩ := h2; exact DataW.trod_lt m _ _ _ hm
  have lt3 : ∀ x ∈ p3, x.block < W.heap.size := by obtain ⟨m, hm⟩ := h3; exact DataW.trod_lt m _ _ _ hm
  have lt4 : ∀ x ∈ p4, x.block < W.heap.size := by obtain ⟨m, hm⟩ := h4; exact DataW.trod_lt m _ _ _ hm
  have lt5 : ∀ x ∈ p5, x.block < W.heap.size := by obtain ⟨m, hm⟩ := h5; exact DataW.trod_lt m _ _ _ hm
  obtain ⟨o0, o1, o2, o3, o4, o5, rfl⟩ := open_m (hval 0 25 v0 rfl rfl) h0
  obtain ⟨m0, m1, m2, m3, m4, m5, rfl⟩ := open_m (hval 1 25 v1 rfl rfl) h1
  obtain ⟨a2, len2, cap2, rfl⟩ := okWide_slice Ybad.underlying26 (hval 2 26 v2 rfl rfl)
  obtain ⟨a3, len3, cap3, rfl⟩ := okWide_slice Ybad.underlying26 (hval 3 26 v3 rfl rfl)
  obtain ⟨a4, len4, cap4, rfl⟩ := okWide_slice Ybad.underlying26 (hval 4 26 v4 rfl rfl)
  obtain ⟨a5, len5, cap5, rfl⟩ := okWide_slice Ybad.underlying26 (hval 5 26 v5 rfl rfl)
  obtain ⟨xs, w2⟩ := open_row h2
  obtain ⟨ys, w3⟩ := open_row h3
  obtain ⟨rs, w4⟩ := open_row h4
  obtain ⟨ls, w5⟩ := open_row h5
  obtain ⟨hT, hpos⟩ := of_laid hL
  clear hA0 hval0
  refine (finish_walk o0 o1 o2 o3 o4 o5 m0 m1 m2 m3 m4 m5 a2 a3 a4 a5 len2 len3 len4 len5 cap2 cap3 cap4 cap5 xs ys rs ls W w2 w3 w4 w5 hT hpos).mono fun e W' ⟨he, bel⟩ => ?_
  subst he
  exact ⟨_, rfl, _, _, _, [], _, [], hW', trodAll_mk1 (shut_bool Ybad.underlying4 _),
    (trodAll_cons_mk (Below.trod laidOut (by kernel_rfl) (of_decide_eq_true (by kernel_rfl)) h0 bel lt0) (trodAll_cons_mk (Below.trod laidOut (by kernel_rfl) (of_decide_eq_true (by kernel_rfl)) h1 bel lt1) (trodAll_cons_mk (Below.trod laidOut (by kernel_rfl) (of_decide_eq_true (by kernel_rfl)) h2 bel lt2) (trodAll_cons_mk (Below.trod laidOut (by kernel_rfl) (of_decide_eq_true (by kernel_rfl)) h3 bel lt3) (trodAll_cons_mk (Below.trod laidOut (by kernel_rfl) (of_decide_eq_true (by kernel_rfl)) h4 bel lt4) (trodAll_cons_mk (Below.trod laidOut (by kernel_rfl) (of_decide_eq_true (by kernel_rfl)) h5 bel lt5) trodAll_mk0)))))), rfl, bel.frame _, fun h => by cases h⟩

theorem finish_holds : Rows.LawS4802CFinishSaid :=
  OpenClaim.holds_of_wide 3 Ybad.f3 rfl rfl rfl rfl rfl rfl rfl ⟨rfl, rfl, rfl, rfl, rfl⟩ rfl rfl rfl rfl rfl (by kernel_rfl) Ybad.func3 (by kernel_rfl)
    (of_decide_eq_true (by kernel_rfl)) (by unfold Func.isWrapper; first | (rw [if_pos (by decide +kernel)]; kernel_rfl) | (rw [if_neg (by decide +kernel)]; exact ⟨rfl, rfl⟩))
    (fun os started H enc _ => finish_lifted os started H enc)

/-- ████ THE TIED CARD ████ -/
theorem finish_card : Rows.LawS4802CFinishCardSaid :=
  Claim7.holds_tied_plain_at .later [] [.data] true (true, "807c75721a8d2d8cb8e54b49fb9fe9039c0b6d142bf3296df4e28d1b4557713c") true
    finish_holds (fun _ h => by cases h) (by kernel_rfl) (fun _ h => by cases h) lawS4802CFinish_row_tie rfl ⟨rfl, rfl⟩ (by kernel_rfl) rfl
    (fun f fn hf hfn => by
      obtain rfl : f = 3 := Option.some.inj ((show Ybad.prog.funcNamed Rows.lawS4802CFinishRow.func = some 3 by kernel_rfl).symm.trans hf) |>.symm
      obtain rfl : fn = Ybad.f3 := (Option.some.inj (Ybad.func3.symm.trans hfn)).symm
      exact ⟨by kernel_rfl, fun j t ht => by
        rw [Ybad.params3] at ht
        have hm : t ∈ [25, 25, 26, 26, 26, 26] := by simpa using Array.mem_of_getElem? ht
        have hall : ([25, 25, 26, 26, 26, 26].all fun u => !Ybad.prog.wantsStandIn u) = true := by kernel_rfl
        exact (show Ybad.prog.wantsStandIn t = false by simpa using List.all_eq_true.1 hall t hm)⟩)
    (by kernel_rfl)
#print axioms finish_card
end Go.Proofs.YbulkcuksDoor
