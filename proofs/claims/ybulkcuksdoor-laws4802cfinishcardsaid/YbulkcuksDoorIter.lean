/-
  The iterator of a bitset (bitset.all$1): its contract.
-/
import Derived.Test.YbulkcuksDoorMatch
import Derived.Test.YbulkcuksDoorLow
import Derived.RangeFuncNested
import Derived.RangeFuncBound
import Derived.RangeFuncCalls
import Derived.RangeFuncLeaves
import Derived.Shelf.Abstract
import Derived.Shelf.RegionOpen
import Derived.OwnWalkIn
import Derived.TacticsInMore
import Derived.LoopNIn
import Derived.LoopIn
namespace Go.Proofs.YbulkcuksDoor
open Go.RowKit Go.Shelf
attribute [local go_sem] Oper.semAt_some

def encP (x : Pg) : Array Value := #[.int .u32 (x.1 : Nat)]

/-- What the loop's body must keep for the iterator: the blocks of L. -/
def KpB (L : List Nat) (W W' : World) : Prop := W.heap.size ≤ W'.heap.size ∧ ∀ x ∈ L, W'.heap[x]? = W.heap[x]?

set_option maxRecDepth 100000 in
set_option maxHeartbeats 2000000 in
theorem all_stops (n : Nat) (hn : 1 ≤ n) (Bn f base : Nat) (ws : List Nat) (v : Value) (w : World) (L : List Nat) (hL1 : 0 ∈ L) (hL2 : Bn ∈ L) (hL3 : ∀ x, v.ownBlock = some x → x ∈ L) (hL : ∀ x ∈ L, x < w.heap.size)
    (hT : TabAt w) (hc0 : w.cell? ⟨Bn, 0, none⟩ = some (.int .i64 f)) (hc1 : w.cell? ⟨Bn, 1, none⟩ = some v) (hown : w.ownsRow base 22 1 v ws.length (encW ws)) (hlt : ∀ x ∈ ws, x < 18446744073709551616) (hbd : f + ws.length ≤ 64) :
    SeqStopsK Fence.wide n Ybad.prog 21 #[.pointer (some ⟨Bn, 0, none⟩)] encP (KpB L) (AllOf f ws) (fun _ => True) 4096 w := fun l J Jx W hW hJ hJx hY h0 => by
  refine callsIn_of_wp Ybad.func21 rfl trivial ?_ rfl
  simp only [Ybad.ntmps21, List.size_toArray, List.length_cons, List.length_nil, Nat.reduceAdd, Nat.reduceSub, Array.replicate_succ, Array.replicate_zero, List.push_toArray, List.append_toArray, List.nil_append, List.cons_append]
  obtain ⟨a, cap, rfl, _, _⟩ := owns_slice hown
  have e0 : W.cell? ⟨Bn, 0, none⟩ = some (.int .i64 f) := (hW.cell (p := ⟨Bn, 0, none⟩) (hL _ hL2)).trans hc0
  have e1 : W.cell? ⟨Bn, 1, none⟩ = some (.slice a ws.length cap) := (hW.cell (p := ⟨Bn, 1, none⟩) (hL _ hL2)).trans hc1
  have hK0 : KpB L w W := ⟨hW.size, fun x hx => hW.block x (hL x hx)⟩
  have H : Hid (TabAt w ∧ w.cell? ⟨Bn, 0, none⟩ = some (.int .i64 f) ∧ w.cell? ⟨Bn, 1, none⟩ = some (.slice a ws.length cap) ∧ w.ownsRow base 22 1 (.slice a ws.length cap) ws.length (encW ws) ∧ (∀ x ∈ ws, x < 18446744073709551616)) := ⟨hT, hc0, hc1, hown, hlt⟩
  have HL : Hid (0 ∈ L ∧ Bn ∈ L ∧ (∀ x, (Value.slice a ws.length cap).ownBlock = some x → x ∈ L) ∧ (∀ x ∈ L, x < w.heap.size)) := ⟨hL1, hL2, hL3, hL⟩
  have HY : Hid _ := hY
  have HJ : Hid _ := And.intro hJ hJx
  clear hT hc0 hc1 hown hlt hL1 hL2 hL3 hL hY hJ hJx hW
  gi_wp2
  gi_loopw [8] (fun c wr => ∃ (k : Nat) (pre : List Pg), k ≤ ws.length ∧ c = .int .i64 k ∧ J pre wr ∧ KpB L w wr ∧ pre.length ≤ 64 * k ∧ ComeTo f ws k pre)
    (fun c _ => ws.length - (intOf c).toNat)
  case atStart => exact ⟨0, [], Nat.zero_le _, rfl, h0, hK0, by simp, come_nil f ws⟩
  case round =>
    obtain ⟨k, pre, hk, rfl, hJp, hKp, hlen, hcome⟩ := hrel
    by_cases hlt : k < ws.length
    · obtain ⟨hT, hc0, hc1, hown, hltw⟩ := H.out
      obtain ⟨g, cap', hv, hg, _, hc, hm, hcell⟩ := owns_at hown hlt
      cases hv
      have hcw : wr.cell? ⟨g, k, none⟩ = some (.int .u64 (ws[k] : Nat)) := (World.cell?_of_block (a := ⟨g, k, none⟩) (hKp.2 g (HL.out.2.2.1 g rfl))).trans hcell
      have hq0 : ws[k] < 18446744073709551616 := hltw _ (List.getElem_mem _)
      have hgd : ws[k] = ws.getD k 0 := by rw [List.getD_eq_getElem?_getD, List.getElem?_eq_getElem hlt]; rfl
      rw [hgd] at hcw hq0
      have HR : Hid (J pre wr ∧ KpB L w wr ∧ pre.length ≤ 64 * k ∧ ComeTo f ws k pre) := ⟨hJp, hKp, hlen, hcome⟩
      generalize hX : ws.getD k 0 = X at hcw hq0
      have HX : Hid _ := hX
      clear hX hgd hJp hKp hlen hcome hT hc0 hc1 hown hltw hcell e0 e1 hK0 h0
      gi_wp2
      gi_loopw [4] (fun u wr2 => ∃ (q r : Nat) (pre2 : List Pg), u = .int .u64 q ∧ q < 18446744073709551616 ∧ r ≤ 64 ∧ (∀ j, j < r → q.testBit j = false) ∧ (∀ j, q.testBit j = true → X.testBit j = true) ∧ J pre2 wr2 ∧ KpB L w wr2 ∧ pre2.length ≤ 64 * k + r ∧ Come f ws k q pre2)
        (fun u _ => (intOf u).toNat)
      case atStart =>
        obtain ⟨hJp, hKp, hlen, hcome⟩ := HR.out
        exact ⟨X, 0, pre, rfl, hq0, by omega, fun j hj => by omega, fun j hj => hj, hJp, hKp, by omega, by rw [← HX.out]; exact come_in f ws k pre hcome⟩
      case round =>
        obtain ⟨q, r, pre2, rfl, hq, hr, hrz, hsub, hJ2, hK2, hlen2, hcome2⟩ := hrel
        by_cases hz : q = 0
        · subst hz
          have HR2 : Hid (r ≤ 64 ∧ J pre2 wr ∧ KpB L w wr ∧ pre2.length ≤ 64 * k + r ∧ Come f ws k 0 pre2) := ⟨hr, hJ2, hK2, hlen2, hcome2⟩
          clear hJ2 hK2 hcome2 hrz hsub hcw
          gi_wp2
          go_roundw
          case rel =>
            obtain ⟨hr, hJ2, hK2, hlen2, hcome2⟩ := HR2.out
            exact ⟨k + 1, pre2, by omega, by go_num, hJ2, hK2, by omega, come_out f ws k pre2 hcome2⟩
          case measure => simp [intOf]; omega
        · obtain ⟨hT, hc0, hc1, hown, hltw⟩ := H.out
          have hT2 : TabAt wr := fun j hj => (World.cell?_of_block (a := ⟨0, j, none⟩) (hK2.2 0 HL.out.1)).trans (hT j hj)
          have e0 : wr.cell? ⟨Bn, 0, none⟩ = some (.int .i64 f) := (World.cell?_of_block (a := ⟨Bn, 0, none⟩) (hK2.2 Bn HL.out.2.1)).trans hc0
          obtain ⟨hcl, hcb, hlow2, hlow3⟩ := low_bit q hz hq
          have hrm := low_room q r hz hq hrz
          have HTZ : Hid (Calls Ybad.prog 22 #[.int .u64 (q : Int)] wr.drew fun e w' => e = .returned (.int .i64 (Lib.ctz 64 q)) ∧ w' = wr.drew) := tz64_any q hq hz wr.drew hT2
          have HS : Hid _ := fun (x : Pg) hx => come_step f ws k q pre2 x hcome2 hz hq (by rw [HX.out]; exact hsub) hx
          obtain ⟨x, hx⟩ : ∃ x : Pg, x.1 = (f + k) * 64 + Lib.ctz 64 q := ⟨⟨(f + k) * 64 + Lib.ctz 64 q, by omega⟩, rfl⟩
          obtain ⟨fn, tmps, assign, body, hy, hR⟩ := HY.out pre2 x wr.drew (HJ.out.1 pre2 wr wr.drew none hJ2 (grownBy_drew wr none) (fun r e => by cases e)) (by omega)
          simp only [encP, hx] at hy
          generalize Lib.ctz 64 q = c at *
          have hne : ((q : Int) != 0) = true := by rw [bne_iff_ne]; omega
          clear hcw hT hc0 hc1 hown hltw
          gi_wp2
          have hmx : Ybad.prog.follows .mixedOrders = true := by kernel_rfl
          have hw1 : IntKind.i64.wrap ((f : Int) + k) = (f : Int) + k := by rw [IntKind.wrap_i64]; omega
          have hw2 : IntKind.i64.wrap (((f : Int) + k) * 64) = ((f : Int) + k) * 64 := by rw [IntKind.wrap_i64]; omega
          have hw3 : IntKind.i64.wrap (((f : Int) + k) * 64 + c) = ((f : Int) + k) * 64 + c := by rw [IntKind.wrap_i64]; omega
          have hw4 : IntKind.u32.wrap (((f : Int) + k) * 64 + c) = ((f : Int) + k) * 64 + c := by rw [IntKind.wrap_u32]; omega
          rw [show (((f + k) * 64 + c : Nat) : Int) = ((f : Int) + k) * 64 + c by simp] at hy
          have HRR : Hid (RoundIn Fence.wide (n - 1) Ybad.prog l fn tmps assign body wr.drew fun e W' => ∃ bv : Bool, e = .returned (.bool bv) ∧ Hid ((bv = true ∧ J (pre2 ++ [x]) W' ∧ KpB L wr.drew W') ∨ (bv = false ∧ Jx (pre2 ++ [x]) W'))) := hR.mono (by
            rintro e W' (⟨rfl, h1, h2⟩ | ⟨rfl, h1⟩)
            · exact ⟨true, rfl, .inl ⟨rfl, h1, h2⟩⟩
            · exact ⟨false, rfl, .inr ⟨rfl, h1⟩⟩)
          clear hR
          gi_region_with_o (first | (refine ⟨trivial, ?_⟩; gi_at_call 22; refine (callsIn_wide.2 HTZ.out).mono ?_; rintro e w' ⟨rfl, rfl⟩) | (refine HRR.out.mono ?_; rintro e W3 ⟨bv, rfl, hor⟩))
          all_goals
            have HLo : Hid _ := And.intro hlow2 hlow3
            have HQ : Hid _ := And.intro hrz hsub
            have HA : Hid _ := and_u64 q hz hq
            have hqp : (1 : Int) ≤ q := by omega
            have hql := low_lt q hz
            clear hlow2 hlow3 hrz hsub hcome2 hy HRR HTZ hJ2 hcb
            rcases hor.out with ⟨rfl, hJ3, hK3⟩ | ⟨rfl, hJ3⟩
            · clear hor
              have HJ3 : Hid _ := And.intro hJ3 hK3
              clear hJ3 hK3
              gi_wp2
              go_roundw
              case rel =>
                refine ⟨q &&& (q - 1), r + 1, pre2 ++ [x], by rw [HA.out], Nat.lt_trans hql hq, by omega, ?_, ?_, HJ3.out.1, ⟨Nat.le_trans hK2.1 HJ3.out.2.1, fun y hy => (HJ3.out.2.2 y hy).trans (hK2.2 y hy)⟩, by simp; omega, HS.out x hx⟩
                · intro j hj
                  rw [HLo.out.2]
                  by_cases e : j < r
                  · rw [HQ.out.1 j e]; rfl
                  · by_cases e2 : j = c
                    · simp [e2]
                    · rw [HLo.out.1 j (by omega)]; rfl
                · intro j hj
                  rw [Nat.testBit_and] at hj
                  exact HQ.out.2 j (by simp at hj; exact hj.1)
              case measure =>
                rw [HA.out]
                simpa [intOf] using hql
            · clear hor
              gi_wp2
              refine bodyPost_ret (results_none rfl _ _ _) rfl ?_
              first | exact ⟨⟨_, rfl⟩, .inr ⟨pre2 ++ [x], hJ3⟩⟩ | exact ⟨⟨_, rfl⟩, .inr ⟨pre2 ++ [x], trivial, hJ3⟩⟩
    · have hk2 : k = ws.length := by omega
      subst hk2
      have HR : Hid (J pre wr ∧ ComeTo f ws ws.length pre) := ⟨hJp, hcome⟩
      clear hJp hKp hlen hcome e0 e1 hK0 h0
      gi_wp2
      go_end0
      exact ⟨⟨_, rfl⟩, .inl ⟨pre, come_all f ws pre HR.out.2, HR.out.1⟩⟩
end Go.Proofs.YbulkcuksDoor
