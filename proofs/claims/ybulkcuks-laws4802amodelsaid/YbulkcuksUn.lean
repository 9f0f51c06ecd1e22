/-
  unused(id).
-/
import Derived.Test.YbulkcuksUnused
namespace Go.Proofs.Ybulkcuks
open Go.RowKit

/-- the pager, its rows' blocks open -/
def PgS (w : World) (pb cb fb tb eb base : Nat) (own : List Nat) (F P R : Nat → Bool) (ep : Int) : Prop :=
  ∃ o1 o2 o3, Pg w pb cb fb tb eb base o1 o2 o3 F P R ep ∧ own = o1 ++ (o2 ++ o3)

/-- what unused(id) leaves -/
def UnPost (w w' : World) (pb cb fb tb eb base : Nat) (own : List Nat) (F P R : Nat → Bool) (ep : Int) (id : Nat) : Prop :=
  ∃ own', PgS w' pb cb fb tb eb base own' (if R id then plus F id else F) (if R id then P else plus P id) (if R id then minus R id else R) ep ∧ (∀ x ∈ own', x ∈ own ∨ w.heap.size ≤ x) ∧ Ux w w' (pb :: fb :: own)

theorem unused_calls (w : World) (pb cb fb tb eb base id : Nat) (own : List Nat) (F P R : Nat → Bool) (ep : Int) (h : PgS w pb cb fb tb eb base own F P R ep) (hi : id < 4096) :
    Calls Yba.prog 16 #[.pointer (some ⟨pb, 0, none⟩), .int .u32 id] w fun e w' => e = .returned (.tuple #[]) ∧ UnPost w w' pb cb fb tb eb base own F P R ep id := by
  obtain ⟨o1, o2, o3, h, rfl⟩ := h
  have HP := hid h
  have c1 := h.c1
  go_enter Yba.func16, Yba.ntmps16
  go_wp2_with (fail)
  refine (drop_calls w cb fb tb eb id ep h.cache h.ncf h.ntf h.nef hi).mono ?_
  rintro e w1 ⟨rfl, hc1, hb1⟩
  have HP1 := hid (HP.out.but hc1 hb1)
  have HB1 := hid hb1
  clear h hc1 hb1 c1
  obtain ⟨f, ws, v, hB, hM, ho3⟩ := HP1.out.fresh
  have e0 := hB.c0
  have e1 := hB.c1
  have HBt := hid hB
  have HM := hid hM
  have hbd := hB.bd
  have hmem : memB f ws id = R id := hM id
  clear hB hM
  go_wp2_with (fail)
  refine (has_any f id base v ws w1 HBt.out.own HBt.out.lt (by omega) hi).mono ?_
  rintro e w2 ⟨rfl, hb2⟩
  have HP2 := hid (HP1.out.below hb2)
  have HB2 := hid hb2
  have HBt2 := hid (HBt.out.below hb2)
  have e0' := HBt2.out.c0
  have e1' := HBt2.out.c1
  rw [hmem]
  clear hb2 e0 e1
  cases hR : R id with
  | true =>
    rw [hR] at hmem
    go_wp2_with (fail)
    refine (clear_any pb 21 base f id ws v w2 HBt2.out hi hmem).mono ?_
    rintro e w3 ⟨rfl, hB3, hM3, hF3⟩
    obtain ⟨hP3, hU3⟩ := HP2.out.set_fresh (R' := minus R id) (o3 := v.ownBlock.toList) ⟨f, _, v, hB3, (fun x => by rw [hM3 x, HM.out x]; rfl), rfl⟩ (fun x hx => .inl (by rw [ho3]; exact hx)) (by rw [ho3]; exact hF3)
    have HP3 := hid hP3
    have HU3 := hid hU3
    clear hP3 hU3 hB3 hM3 hF3 e0' e1'
    go_wp2_with (fail)
    refine (add_any pb 9 base id o1 F w3 HP3.out.free HP3.out.hb hi).mono ?_
    rintro e w4 ⟨rfl, own', hS, ho, hF⟩
    obtain ⟨hP4, hU4⟩ := HP3.out.add_free hS ho hF
    have HE := hid (And.intro hP4 (And.intro hU4 ho))
    clear hP4 hU4 hS ho hF
    go_wp2_with (fail)
    go_end0
    obtain ⟨hP4, hU4, ho⟩ := HE.out
    refine ⟨rfl, own' ++ (o2 ++ v.ownBlock.toList), ⟨own', o2, _, ?_, rfl⟩, ?_, ?_⟩
    · rw [if_pos hR, if_pos hR, if_pos hR]; exact hP4
    · intro x hx
      have s1 := HB1.out.size
      have s2 := HB2.out.size
      have s3 := HU3.out.size
      rcases List.mem_append.1 hx with hx | hx
      · rcases ho x hx with e | e
        · exact .inl (by simp [e])
        · right; omega
      · left
        rcases List.mem_append.1 hx with hx | hx
        · simp [hx]
        · rw [ho3]; simp at hx ⊢; exact .inr (.inr hx)
    · have u1 : Ux w w1 (pb :: fb :: (o1 ++ (o2 ++ o3))) := (Ux.of_but HB1.out).mono (fun x hx _ => by simp at hx; simp [hx])
      have u2 := u1.trans (Ux.of_below HB2.out []) (fun x hx => by cases hx)
      have u3 := u2.trans HU3.out (fun x hx => .inl (by simp at hx ⊢; rcases hx with e | e <;> simp [e]))
      exact u3.trans hU4 (fun x hx => .inl (by simp at hx ⊢; rcases hx with e | e <;> simp [e]))
  | false =>
    rw [hR] at hmem
    go_wp2_with (fail)
    refine (add_any pb 15 base id o2 P w2 HP2.out.pend HP2.out.hb hi).mono ?_
    rintro e w4 ⟨rfl, own', hS, ho, hF⟩
    obtain ⟨hP4, hU4⟩ := HP2.out.add_pend hS ho hF
    have HE := hid (And.intro hP4 (And.intro hU4 ho))
    clear hP4 hU4 hS ho hF
    go_wp2_with (fail)
    go_end0
    obtain ⟨hP4, hU4, ho⟩ := HE.out
    refine ⟨rfl, o1 ++ (own' ++ o3), ⟨o1, own', o3, ?_, rfl⟩, ?_, ?_⟩
    · have hR' : ¬ R id = true := by rw [hR]; decide
      rw [if_neg hR', if_neg hR', if_neg hR']; exact hP4
    · intro x hx
      have s1 := HB1.out.size
      have s2 := HB2.out.size
      rcases List.mem_append.1 hx with hx | hx
      · exact .inl (by simp [hx])
      · rcases List.mem_append.1 hx with hx | hx
        · rcases ho x hx with e | e
          · exact .inl (by simp [e])
          · right; omega
        · exact .inl (by simp [hx])
    · have u1 : Ux w w1 (pb :: fb :: (o1 ++ (o2 ++ o3))) := (Ux.of_but HB1.out).mono (fun x hx _ => by simp at hx; simp [hx])
      have u2 := u1.trans (Ux.of_below HB2.out []) (fun x hx => by cases hx)
      exact u2.trans hU4 (fun x hx => .inl (by simp at hx ⊢; rcases hx with e | e <;> simp [e]))

end Go.Proofs.Ybulkcuks
