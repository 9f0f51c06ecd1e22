/-
  The walk of LawS4805BRoot.
-/
import Derived.Test.YbulkcumiLow
import Derived.BigQuiet
import Derived.Deep.QuietTactic
import Derived.Deep.RegionWith
import Derived.Deep.DeepCutAuto
namespace Go.Proofs.Ybulkcumi
open Go.RowKit

theorem hid {p : Prop} (h : p) : Hid p := h

theorem add_block (a : Addr) (n : Nat) : (a.add n).block = a.block := by unfold Addr.add; split <;> rfl

theorem equalIn_same (d : Nat) (a : Addr) (W : World) : (Op.equalIn (d + 1) 87 (.pointer (some a)) (.pointer (some a))).run Yba.prog W = .ok true W := by
  have hsz : (Yba.prog.info? 89).isSome = true := by kernel_rfl
  obtain ⟨j, hj⟩ := Option.isSome_iff_exists.1 hsz
  simp [Op.equalIn, run_underlying Yba.underlying87, typeInfo, sizeOf, run_sameAddr_same, hj]
theorem equal_same (a : Addr) (W : World) : (Op.equal 87 (.pointer (some a)) (.pointer (some a))).run Yba.prog W = .ok true W := equalIn_same 9999 a W
theorem neq_same (a : Addr) (W : World) : (binOp .neq 87 (.pointer (some a)) (.pointer (some a))).run Yba.prog W = .ok (.bool false) W := by
  simp [binOp, equal_same]

theorem below_drewN {B n : Nat} {a w : World} (h : Below B a w) : Below B a (w.drewN n) := ⟨h.os, h.tape, h.output, h.size, h.block⟩

theorem walk_big (x : Option Addr) (n cap : Nat) (w : World) (hb : 1024 < n) : Calls Yba.prog 5 #[.slice x n cap] w fun e w' => e = .returned (.bool true) ∧ Below w.heap.size w w' := by
  have h1 : (1024 : Int) < n := by omega
  go_enter Yba.func5, Yba.ntmps5
  go_wp2
  all_goals (go_ret; exact ⟨rfl, Below.refl _ _⟩)

theorem walk_nil (x : Option Addr) (cap : Nat) (w : World) : Calls Yba.prog 5 #[.slice x 0 cap] w fun e w' => e = .returned (.bool true) ∧ Below w.heap.size w w' := by
  have hm := run_make_queue w 0 (by omega)
  simp only [Int.cast_ofNat_Int] at hm
  go_enter Yba.func5, Yba.ntmps5
  go_wp2_with (fail)
  go_loopw [4] (fun c wr => c = .int .i64 0 ∧ Below w.heap.size w wr) (fun _ _ => 0)
  case atStart => exact ⟨rfl, (Below.refl _ _).alloc (Nat.le_refl _) _⟩
  case round =>
    obtain ⟨rfl, hB⟩ := hrel
    go_wp2_with (fail)
    refine (earliest_nil _ (some ⟨w.heap.size, 0, none⟩) _ (by simp [go_sem])).mono ?_
    rintro e w2 ⟨rfl, rfl⟩
    go_wp2_with (fail)
    go_ret
    exact ⟨rfl, hB.alloc hB.size _⟩

set_option maxRecDepth 20000 in
theorem walk_some (x : Addr) (n cap : Nat) (zs : List Int) (w : World) (h0 : 0 < n) (hn : n ≤ 1024) (hx : x.block < w.heap.size) (hc : ∀ i, i < n → w.cell? (x.add i) = some (.int .i64 (zs.getD i 0))) :
    Calls Yba.prog 5 #[.slice (some x) n cap] w fun e w' => e = .returned (.bool true) ∧ Below w.heap.size w w' := by
  have hm := run_make_queue w n hn
  have h1 : ¬ (1024 : Int) < n := by omega
  have h2 : ((n : Int) == 0) = false := by simp; omega
  have H0 := hid h0
  have HN := hid hn
  have HX := hid hx
  have HC := hid hc
  clear h0 hn hx hc
  go_enter Yba.func5, Yba.ntmps5
  go_wp2_with (fail)
  go_loopw [4] (fun c wr => ∃ (k : Nat) (f : Nat → Value), c = .int .i64 k ∧ k ≤ n ∧ Below w.heap.size w wr ∧ wr.rowIs w.heap.size 87 n f ∧ (∀ j, j < k → ∃ a, f j = .pointer (some a))) (fun c _ => n - (intOf c).toNat)
  case atStart => exact ⟨0, _, rfl, Nat.zero_le _, (Below.refl _ _).alloc (Nat.le_refl _) _, World.rowIs_made _ _ _ _, fun j hj => by omega⟩
  case round =>
    obtain ⟨k, f, rfl, hk, hB, hR, hf⟩ := hrel
    have HR := hid hR
    have HF := hid hf
    have HB := hid hB
    clear hR hf hB
    by_cases hkn : k < n
    · have h3 : (k : Int) < n := by omega
      have hcx : wr.cell? (x.add k) = some (.int .i64 (zs.getD k 0)) := (HB.out.cell (p := x.add k) (by rw [add_block]; exact HX.out)).trans (HC.out k hkn)
      have hq := HR.out.cell hkn
      have hz := HR.out.frozen k
      have hbl := HR.out.lt
      go_wp2_with (fail)
      go_region_with (go_at_call 16; refine (name_calls _ _).mono ?_; rintro e w2 ⟨⟨s, rfl⟩, rfl⟩)
      all_goals
        go_wp2_with (fail)
        go_roundw
        case rel =>
          exact ⟨k + 1, _, by go_num, by omega, ((HB.out.setCell (Nat.le_refl _) _).alloc (by simpa [World.setCell] using Nat.le_of_lt hbl) _).drew, ((HR.out.set k _).alloc _).drew, fun j hj => by
            by_cases e : j = k
            · exact ⟨_, if_pos e⟩
            · obtain ⟨a, ha⟩ := HF.out j (by omega)
              exact ⟨a, by rw [if_neg e, ha]⟩⟩
        case measure => simp [intOf]; omega
    · obtain rfl : k = n := by omega
      obtain ⟨a0, ha0⟩ := HF.out 0 H0.out
      have h4 : (0 : Int) < k := by have := H0.out; omega
      have hR2 : ∀ o : Obj, (wr.alloc o).rowIs w.heap.size 87 k f := fun o => HR.out.alloc o
      have hr0 : ∀ o : Obj, (wr.alloc o).cell? ⟨w.heap.size, 0, none⟩ = some (.pointer (some a0)) := fun o => by rw [(hR2 o).cell H0.out, ha0]
      clear ha0 hR2
      go_wp2_with (fail)
      refine (earliest_root wr.heap.size w.heap.size k (some a0) _ H0.out HN.out (by simp [go_sem]) (hr0 _)).mono ?_
      rintro e w2 ⟨rfl, rfl⟩
      have hsame := neq_same a0
      go_wp2_with (fail)
      go_loopw [7] (fun c wv => ∃ m : Nat, c = .int .i64 m ∧ m ≤ k ∧ Below w.heap.size w wv ∧ wv.rowIs w.heap.size 87 k f ∧ wv.cell? ⟨wr.heap.size, 1, none⟩ = some (.slice (some ⟨w.heap.size, 0, none⟩) k k)) (fun c _ => k - (intOf c).toNat)
      case atStart => exact ⟨0, rfl, Nat.zero_le _, HB.out.alloc (Nat.le_of_lt HR.out.lt) _, HR.out.alloc _, by simp [go_sem]⟩
      case round =>
        obtain ⟨m, rfl, hm, hB2, hR2, hq2⟩ := hrel
        have HR2 := hid hR2
        have HB2 := hid hB2
        clear hR2 hB2
        by_cases hmk : m < k
        · have h5 : (m : Int) < k := by omega
          obtain ⟨a1, ha1⟩ := HF.out m hmk
          have hcm := HR2.out.cell hmk
          rw [ha1] at hcm
          have hsame1 := neq_same a1
          clear ha1
          go_wp2_with (fail)
          go_quiet (fail)
          go_wp2_with (fail)
          go_roundw
          case rel => exact ⟨m + 1, by go_num, by omega, below_drewN HB2.out, HR2.out, hq2⟩
          case measure => simp [intOf]; omega
        · obtain rfl : m = k := by omega
          go_wp2_with (fail)
          go_ret
          exact ⟨rfl, HB2.out⟩

end Go.Proofs.Ybulkcumi
