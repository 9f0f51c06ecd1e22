/-
  LawS4806CAt: the row's frame (by the seat's shell), its hole filled by the walk (YbulkcumwAtLaw).
-/
import Derived.Test.YbulkcumwRows
import Derived.WalkKit
import Derived.ProofKit
import Derived.OpenShut
import Derived.ShutString
import Derived.Test.YbulkcumwAtLaw
namespace Go.Proofs.Ybulkcumw.lawS4806CAt
open Go.ChangeShapes Go.WideShapes Go.ChangeAt Go.RowKit
open Go.ChangeMaps (open_string shut_string)
set_option linter.unusedVariables false      -- a walk need not use every 'w<i>' (that an integer argument fits its kind)

theorem own : ownKnob Yba.prog.godebug = none := by kernel_rfl

/-! ### The walk -/
theorem walk (a0 : ByteArray) (a1 : Int) (a2 : Int) (a3 : Bool) (w0 : a0.size ≤ maxLen) (w1 : (Lit.int .u16 a1).wf = true) (w2 : (Lit.int .i16 a2).wf = true) (w : World) :
    Calls Yba.prog 3 #[.string a0, .int .u16 a1, .int .i16 a2, .bool a3] w fun e w' => e = .returned (.bool true) ∧ Grown w w' := by
  have hw1 : 0 ≤ a1 ∧ a1 < 65536 := by
    simp only [Lit.wf, Bool.and_eq_true, decide_eq_true_eq] at w1
    have e1 : IntKind.u16.min = 0 := by decide
    have e2 : IntKind.u16.max = 65535 := by decide
    rw [e1, e2] at w1
    omega
  have hw2 : -32768 ≤ a2 ∧ a2 < 32768 := by
    simp only [Lit.wf, Bool.and_eq_true, decide_eq_true_eq] at w2
    have e1 : IntKind.i16.min = -32768 := by decide
    have e2 : IntKind.i16.max = 32767 := by decide
    rw [e1, e2] at w2
    omega
  rcases Nat.lt_or_ge 4096 a0.size with hb | hb
  · exact at_big a0 a1 a2 a3 w hb
  · by_cases hn : a1 % ((a0.size : Int) + 1) + a2 < 0
    · exact at_ahead a0 a1 a2 a3 w hb hw1.1 hw1.2 hw2.1 hw2.2 hn
    · exact at_law a0 a1 a2 a3 w hb hw1.1 hw1.2 hw2.1 hw2.2 (by omega)

/-! ### THE ROW's STEP: WRITTEN OUT: LEAVE IT -/
set_option maxRecDepth 100000 in
theorem lifted (os : Os) (started : os.Started) (H : Type) (enc : TypeId × Value → H) :
    ReturnsInHanded {} Yba.checked os 3 .any (Rows.lawS4806CAtSpec.pre6 enc Yba.prog Yba.f3 Rows.lawS4806CAtRow.domain false) (Rows.lawS4806CAtSpec.post enc Yba.prog Yba.f3 false true false false) := by
  refine returnsInHanded_of_change (C := Yba.checked) own started (by kernel_rfl) Yba.func3
    (ChangeSpec.witness6 (enc := enc) (C := Yba.checked) false ⟨#[], #[.string ByteArray.empty, .int .u16 0, .int .i16 0, .bool false], []⟩ 8 (by kernel_rfl) (by kernel_rfl) (by kernel_rfl) (by kernel_rfl)) ?_
  intro W base args ds gs before hval0 hW hcnd _
  have hval : ∀ (j : Nat) t v, Yba.f3.params[j]? = some t → args[j]? = some v → Value.okWide Yba.prog W .any base t v := hval0
  have hW' := hW
  obtain ⟨p, q, hA0, hV, rfl, hfz, hnd⟩ := hW
  have hA : DataW.TrodAll enc Yba.prog W 0 (fun _ => true) true Yba.f3.params.toList args.toList ds p := hA0
  rw [Yba.params3] at hA hval
  obtain ⟨v0, vs0, d0, ds0, p0, q0, hargs, rfl, rfl, h0, r0⟩ := trodAll_cons hA
  obtain ⟨v1, vs1, d1, ds1, p1, q1, rfl, rfl, rfl, h1, r1⟩ := trodAll_cons r0
  obtain ⟨v2, vs2, d2, ds2, p2, q2, rfl, rfl, rfl, h2, r2⟩ := trodAll_cons r1
  obtain ⟨v3, vs3, d3, ds3, p3, q3, rfl, rfl, rfl, h3, r3⟩ := trodAll_cons r2
  obtain ⟨rfl, rfl, rfl⟩ := trodAll_nil r3
  obtain rfl : args = #[v0, v1, v2, v3] := by cases args; simp_all
  obtain ⟨rfl, rfl⟩ := trodVars_none hV
  obtain ⟨a0, rfl, rfl, rfl, w0⟩ := open_string Yba.underlying9 (hval 0 9 v0 rfl rfl) h0
  obtain ⟨a1, rfl, rfl, rfl, w1⟩ := open_int Yba.underlying22 (hval 1 22 v1 rfl rfl) h1
  obtain ⟨a2, rfl, rfl, rfl, w2⟩ := open_int Yba.underlying23 (hval 2 23 v2 rfl rfl) h2
  obtain ⟨a3, rfl, rfl, rfl⟩ := open_bool Yba.underlying4 (hval 3 4 v3 rfl rfl) h3
  clear hA0 hval0
  simp only [List.append_nil] at hW'
  refine (walk a0 a1 a2 a3 w0 w1 w2 W).mono fun e W' ⟨he, hg⟩ => ?_
  subst he
  exact ⟨_, rfl, post_of_same (pa := []) (pv := []) hW' (fun _ _ _ => (trodAll_cons_mk (shut_bool Yba.underlying4 _) trodAll_mk0)) (fun sp _ => (trodAll_cons_mk (shut_string Yba.underlying9 w0) (trodAll_cons_mk (shut_int Yba.underlying22 w1) (trodAll_cons_mk (shut_int Yba.underlying23 w2) (trodAll_cons_mk (shut_bool Yba.underlying4 _) trodAll_mk0))))) (fun _ _ => rfl) rfl
    (hg.frame _) hg.2.1 (ok_one (by kernel_rfl) rfl (okWide_bool_mk Yba.underlying4 _))⟩

theorem over : Rows.lawS4806CAtRow.holds Yba.pinned (OpenSpec.ofChange Rows.lawS4806CAtSpec) :=
  OpenClaim.holds_of_wide 3 Yba.f3 rfl rfl rfl rfl rfl rfl rfl ⟨rfl, rfl, rfl, rfl, rfl⟩ rfl rfl rfl rfl rfl (by kernel_rfl) Yba.func3 (by kernel_rfl)
    (of_decide_eq_true (by kernel_rfl)) (by unfold Func.isWrapper; first | (rw [if_pos (by decide +kernel)]; kernel_rfl) | (rw [if_neg (by decide +kernel)]; exact ⟨rfl, rfl⟩))
    (fun os started H enc _ => lifted os started H enc)

/-- ████ THE STATEMENT ████ -/
theorem proved : Rows.LawS4806CAtSaid :=
  over
end Go.Proofs.Ybulkcumw.lawS4806CAt

/-- The statement, by her short name. -/
theorem Go.Proofs.Ybulkcumw.at_said : Go.Proofs.Ybulkcumw.Rows.LawS4806CAtSaid := Go.Proofs.Ybulkcumw.lawS4806CAt.proved
