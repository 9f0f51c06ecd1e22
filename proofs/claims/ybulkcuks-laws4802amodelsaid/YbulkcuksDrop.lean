/-
  drop (the page is not in the cache: nothing turns but the lock), waitLive (no section lives: the epoch grows by one).
-/
import Derived.Test.YbulkcuksTable
namespace Go.Proofs.Ybulkcuks
open Go.RowKit Go.MuLone

/-- all but block fb stays -/
structure But (w w' : World) (fb : Nat) : Prop where
  os : w'.os = w.os
  tape : w'.tape = w.tape
  output : w'.output = w.output
  size : w'.heap.size = w.heap.size
  block : ∀ i, i ≠ fb → w'.heap[i]? = w.heap[i]?

theorem But.refl (w : World) (fb : Nat) : But w w fb := ⟨rfl, rfl, rfl, rfl, fun _ _ => rfl⟩
theorem But.set {w w' : World} {fb : Nat} (h : But w w' fb) (j : Nat) (v : Value) : But w (w'.setCell ⟨fb, j, none⟩ v) fb :=
  ⟨h.os, h.tape, h.output, by simpa [World.setCell] using h.size, fun i hi => (Below.heap_setCell w' ⟨fb, j, none⟩ v i hi).trans (h.block i hi)⟩

theorem cell_off (w : World) (b i j : Nat) (v : Value) (h : i ≠ j) : (w.setCell ⟨b, i, none⟩ v).cell? ⟨b, j, none⟩ = w.cell? ⟨b, j, none⟩ :=
  World.cell?_setCell_other _ _ _ _ (fun e => h (congrArg Addr.off e))
theorem cell_blk (w : World) (b i c j : Nat) (v : Value) (h : c ≠ b) : (w.setCell ⟨b, i, none⟩ v).cell? ⟨c, j, none⟩ = w.cell? ⟨c, j, none⟩ :=
  World.cell?_of_block (a := ⟨c, j, none⟩) (Below.heap_setCell w ⟨b, i, none⟩ v c h)

theorem CacheAt.unlocked {w : World} {cb fb tb eb : Nat} {ep : Int} (h : CacheAt w cb fb tb eb ep) (hc : cb ≠ fb) (ht : tb ≠ fb) (he : eb ≠ fb) : CacheAt ((w.setCell ⟨fb, 0, none⟩ (.int .i32 1)).setCell ⟨fb, 0, none⟩ (.int .i32 0)) cb fb tb eb ep := by
  obtain ⟨c0, c4, tab, ent, mu, muz, epc, epz, slot⟩ := h
  have hm := World.cell?_setCell_same w ⟨fb, 0, none⟩ (.int .i32 1) mu
  exact ⟨(cell_blk _ _ _ _ _ _ hc).trans ((cell_blk _ _ _ _ _ _ hc).trans c0), (cell_blk _ _ _ _ _ _ hc).trans ((cell_blk _ _ _ _ _ _ hc).trans c4), (Below.heap_setCell _ _ _ _ ht).trans ((Below.heap_setCell _ _ _ _ ht).trans tab), (Below.heap_setCell _ _ _ _ he).trans ((Below.heap_setCell _ _ _ _ he).trans ent),
    World.cell?_setCell_same _ _ _ hm, by rw [World.frozen?_setCell, World.frozen?_setCell]; exact muz, (cell_off _ _ _ _ _ (by decide)).trans ((cell_off _ _ _ _ _ (by decide)).trans epc), by rw [World.frozen?_setCell, World.frozen?_setCell]; exact epz,
    fun i hi => (cell_off _ _ _ _ _ (by omega)).trans ((cell_off _ _ _ _ _ (by omega)).trans (slot i hi))⟩

theorem CacheAt.grown {w : World} {cb fb tb eb : Nat} {ep : Int} (h : CacheAt w cb fb tb eb ep) (hc : cb ≠ fb) (ht : tb ≠ fb) (he : eb ≠ fb) (q : Int) : CacheAt (w.setCell ⟨fb, 36, none⟩ (.int .u64 q)) cb fb tb eb q := by
  obtain ⟨c0, c4, tab, ent, mu, muz, epc, epz, slot⟩ := h
  exact ⟨(cell_blk _ _ _ _ _ _ hc).trans c0, (cell_blk _ _ _ _ _ _ hc).trans c4, (Below.heap_setCell _ _ _ _ ht).trans tab, (Below.heap_setCell _ _ _ _ he).trans ent,
    (cell_off _ _ _ _ _ (by decide)).trans mu, by rw [World.frozen?_setCell]; exact muz, World.cell?_setCell_same _ _ _ epc, by rw [World.frozen?_setCell]; exact epz,
    fun i hi => (cell_off _ _ _ _ _ (by omega)).trans (slot i hi)⟩

set_option maxHeartbeats 800000 in
theorem drop_calls (w : World) (cb fb tb eb id : Nat) (ep : Int) (h : CacheAt w cb fb tb eb ep) (hc : cb ≠ fb) (ht : tb ≠ fb) (he : eb ≠ fb) (hi : id < 4096) :
    Calls Yba.prog 25 #[.pointer (some ⟨cb, 0, none⟩), .int .u32 id] w fun e w' => e = .returned (.tuple #[]) ∧ CacheAt w' cb fb tb eb ep ∧ But w w' fb := by
  have HC : Hid _ := h
  obtain ⟨c0, c4, tab, ent, mu, muz, epc, epz, slot⟩ := h
  have d0 : (w.setCell ⟨fb, 0, none⟩ (.int .i32 1)).cell? ⟨cb, 0, none⟩ = some (.pointer (some ⟨fb, 0, none⟩)) := (cell_blk _ _ _ _ _ _ hc).trans c0
  clear epc epz slot
  go_enter_defers Yba.func25, Yba.ntmps25
  go_wp2_with (go_at_call 31; refine (lock_free muLib ⟨fb, 0, none⟩ _ mu muz).mono ?_; rintro e w' ⟨rfl, rfl⟩)
  refine (find_calls _ cb tb eb id ((cell_blk _ _ _ _ _ _ hc).trans c4) ((Below.heap_setCell _ _ _ _ ht).trans tab) ((Below.heap_setCell _ _ _ _ he).trans ent) hi).mono ?_
  rintro e w2 ⟨rfl, rfl⟩
  go_wp2_with (fail)
  refine leaves_cons (f := 32) (args := #[.pointer (some ⟨fb, 0, none⟩)]) (by simp) (by simp [go_sem]) ?_
  refine (unlock_deferred muLib ⟨fb, 0, none⟩ .returning _ ?_ ?_).mono ?_
  · exact World.cell?_setCell_same w ⟨fb, 0, none⟩ (.int .i32 1) mu
  · simp [muz]
  rintro e u' w'' ⟨rfl, rfl, rfl⟩
  exact ⟨_, results_none rfl _ _ _, rfl, HC.out.unlocked hc ht he, ((But.refl w fb).set 0 _).set 0 _⟩

theorem wait_calls (w : World) (cb fb tb eb : Nat) (h : CacheAt w cb fb tb eb 0) (hc : cb ≠ fb) (ht : tb ≠ fb) (he : eb ≠ fb) :
    Calls Yba.prog 15 #[.pointer (some ⟨fb, 0, none⟩)] w fun e w' => e = .returned (.tuple #[]) ∧ CacheAt w' cb fb tb eb 1 ∧ But w w' fb := by
  have HC : Hid _ := h
  have HG : Hid (CacheAt (w.setCell ⟨fb, 36, none⟩ (.int .u64 1)) cb fb tb eb 1) := h.grown hc ht he 1
  obtain ⟨c0, c4, tab, ent, mu, muz, epc, epz, slot⟩ := h
  clear slot tab ent c0 c4 mu muz
  go_enter Yba.func15, Yba.ntmps15
  go_wp2_with (fail)
  refine (add_calls fb 36 0 1 1 w epc epz rfl).mono ?_
  rintro e w2 ⟨rfl, rfl⟩
  go_wp2_with (fail)
  go_loopw [9] (fun c wv => ∃ k : Nat, c = .int .i64 k ∧ k ≤ 64 ∧ wv = w.setCell ⟨fb, 36, none⟩ (.int .u64 1)) (fun c _ => 64 - (intOf c).toNat)
  case atStart => exact ⟨0, rfl, by omega, rfl⟩
  case round =>
    obtain ⟨k, rfl, hk, rfl⟩ := hrel
    by_cases hk2 : k < 64
    · have h1 : (k : Int) < 64 := by omega
      have hs := HG.out.slot k hk2
      go_wp2_with (fail)
      go_loopw [4] (fun _ wv => wv = w.setCell ⟨fb, 36, none⟩ (.int .u64 1)) (fun _ _ => 0)
      case atStart => rfl
      case round =>
        subst hrel
        go_wp2_with (fail)
        refine (load_calls fb (37 + k * 57) 0 _ hs).mono ?_
        rintro e w3 ⟨rfl, rfl⟩
        go_wp2_with (fail)
        go_roundw
        case rel => exact ⟨k + 1, by go_num, by omega, trivial⟩
        case measure => simp [intOf]; omega
    · obtain rfl : k = 64 := by omega
      go_wp2_with (fail)
      go_end0
      exact ⟨rfl, HG.out, (But.refl w fb).set 36 _⟩

end Go.Proofs.Ybulkcuks
