/-
  bitset.cover(i, i+1): its four ways, and all of them: 'cover_any'.
-/
import Derived.Test.YbulkcuksFrame
import Derived.Test.YbulkcuksInsertOwn
import Derived.BigQuiet
import Derived.Deep.QuietTactic
import Derived.Deep.RegionWith
import Derived.Deep.DeepCutAuto
import Derived.Deep.OwnRows
namespace Go.Proofs.Ybulkcuks
open Go.RowKit


set_option maxRecDepth 100000 in
set_option maxHeartbeats 1000000 in
theorem cover_nil (b o base f i : Nat) (ws : List Nat) (v : Value) (w : World) (h : BAt w b o base f ws v) (hbase : base ≤ w.heap.size) (hi : i < 64) (hn : ws.length = 0) :
    Calls Yba.prog 14 #[.pointer (some ⟨b, o, none⟩), .int .i64 i, .int .i64 ((i : Int) + 1)] w fun e w' => e = .returned (.tuple #[]) ∧
      ∃ v', BAt w' b o base (covF f ws i) (covW f ws i) v' ∧ (∀ k, v'.ownBlock = some k → v.ownBlock = some k ∨ w.heap.size ≤ k) ∧ Fr w w' b o 2 v.ownBlock.toList := by
  obtain ⟨i0, hi0, hz0, hzs, hzb⟩ := info_parts info22
  have hown := h.own
  rw [hn] at hown
  obtain ⟨v', w', hrun, hown', hgrow, hblk⟩ := run_append_zeros_own (P := Yba.prog) w base 71 3 71 40 i0 (.int .u64 0) 8 .i64 .i64 Yba.underlying71 Yba.underlying3 hi0 hz0 hzs hzb rfl rfl v 0 _ hown 1 (by omega) (by unfold maxLen; omega) (by omega) hbase
  have hf := Fr.of_grown hgrow b o 2 h.blt h.ne
  obtain ⟨g', cap', hv', _⟩ := owns_form hown' (by omega)
  have hc0' : w'.cell? ⟨b, o, none⟩ = some (.int .i64 f) := (World.cell?_of_block (hgrow.block b h.blt (fun e => h.ne e.symm))).trans h.c0
  have hc1' : w'.cell? ⟨b, o + 1, none⟩ = some v := (World.cell?_of_block (hgrow.block b h.blt (fun e => h.ne e.symm))).trans h.c1
  have hz0' : w'.frozen? ⟨b, o, none⟩ = false := (hf.frz _).trans h.z0
  have hz1' : w'.frozen? ⟨b, o + 1, none⟩ = false := (hf.frz _).trans h.z1
  subst hv'
  obtain ⟨a, cap, rfl, hl, hm⟩ := owns_slice h.own
  rw [hn, show ((1 : Nat) : Int) = (i : Int) + 1 - (i : Int) by omega] at hrun
  have hc0 := h.c0
  have hc1 := h.c1
  have hz0 := h.z0
  have hz1 := h.z1
  rw [hn] at hc1
  have H : Hid _ := h
  have HO : Hid _ := hown'
  have HG : Hid _ := hgrow
  have HB : Hid _ := hblk
  have HF : Hid _ := hf
  have HR : Hid _ := hrun
  clear h hown hown' hgrow hblk hf hi0 hz0 hzs hzb hrun
  go_enter Yba.func14, Yba.ntmps14
  go_wp2_with (at_builtin; go_must (refine Lib.wpList_append_run _ rfl _ _ 71 3 rfl _ _ rfl rfl _ _ HR.out ?_))
  refine bodyPost_ret (results_none rfl _ _ _) rfl ?_
  have h := H.out
  have hne : (Value.slice (some ⟨g', 0, none⟩) 1 cap').ownBlock ≠ some b := by
    rcases HB.out with e | e
    · exact fun e2 => h.ne (e.symm.trans e2)
    · intro e2
      have := Option.some.inj (e.symm.trans e2)
      have := h.blt
      omega
  refine ⟨rfl, .slice (some ⟨g', 0, none⟩) 1 cap', ?_, ?_, ?_⟩
  · rw [covF_nil _ _ _ hn, covW_nil _ _ _ hn]
    refine bat_store2 hc0' hc1' hz0' hz1' ?_ hne (fun x hx => by simp at hx; omega) (by simp; omega)
    have := HO.out
    have e0 : encW ws = [] := List.eq_nil_of_length_eq_zero (by rw [encW_length]; exact hn)
    rw [e0] at this
    exact this
  · intro k hk
    rcases HB.out with e | e
    · exact .inl (e.symm.trans hk)
    · right
      have := Option.some.inj (e.symm.trans hk)
      omega
  · exact (HF.out.setCell o _ (Nat.le_refl _) (by omega)).setCell (o + 1) _ (by omega) (by omega)

set_option maxRecDepth 100000 in
set_option maxHeartbeats 1000000 in
theorem cover_in (b o base f i : Nat) (ws : List Nat) (v : Value) (w : World) (h : BAt w b o base f ws v) (hn : 0 < ws.length) (hfi : f ≤ i) (hin : i + 1 ≤ f + ws.length) :
    Calls Yba.prog 14 #[.pointer (some ⟨b, o, none⟩), .int .i64 i, .int .i64 ((i : Int) + 1)] w fun e w' => e = .returned (.tuple #[]) ∧
      ∃ v', BAt w' b o base (covF f ws i) (covW f ws i) v' ∧ (∀ k, v'.ownBlock = some k → v.ownBlock = some k ∨ w.heap.size ≤ k) ∧ Fr w w' b o 2 v.ownBlock.toList := by
  obtain ⟨a, cap, rfl, hl, hm⟩ := owns_slice h.own
  have hc0 := h.c0
  have hc1 := h.c1
  have H : Hid _ := h
  have hbd := h.bd
  have hl0 : ((ws.length : Int) == 0) = false := by rw [beq_eq_false_iff_ne]; omega
  clear h
  go_enter Yba.func14, Yba.ntmps14
  go_wp2_with fail
  refine (end_any f ws.length a cap _ (by omega)).mono ?_
  rintro e w' ⟨rfl, hb⟩
  go_wp2
  go_end0
  have h := H.out
  rw [covF_up _ _ _ hn hfi, covW_up _ _ _ hn hfi, show i + 1 - (f + ws.length) = 0 by omega, List.replicate_zero, List.append_nil]
  exact ⟨rfl, _, h.below hb, fun k hk => .inl hk, Fr.of_below hb b o 2 _ h.blt⟩

set_option maxRecDepth 100000 in
set_option maxHeartbeats 1000000 in
theorem cover_up (b o base f i : Nat) (ws : List Nat) (v : Value) (w : World) (h : BAt w b o base f ws v) (hbase : base ≤ w.heap.size) (hi : i < 64) (hn : 0 < ws.length) (hfi : f ≤ i) (hin : f + ws.length < i + 1) :
    Calls Yba.prog 14 #[.pointer (some ⟨b, o, none⟩), .int .i64 i, .int .i64 ((i : Int) + 1)] w fun e w' => e = .returned (.tuple #[]) ∧
      ∃ v', BAt w' b o base (covF f ws i) (covW f ws i) v' ∧ (∀ k, v'.ownBlock = some k → v.ownBlock = some k ∨ w.heap.size ≤ k) ∧ Fr w w' b o 2 v.ownBlock.toList := by
  obtain ⟨i0, hi0, hz0, hzs, hzb⟩ := info_parts info22
  obtain ⟨a, cap, rfl, hl, hm⟩ := owns_slice h.own
  have hc0 := h.c0
  have hc1 := h.c1
  have H : Hid _ := h
  have HI : Hid _ := And.intro hi0 (And.intro hz0 (And.intro hzs hzb))
  have hbd := h.bd
  have hl0 : ((ws.length : Int) == 0) = false := by rw [beq_eq_false_iff_ne]; omega
  clear h hi0 hz0 hzs hzb
  go_enter Yba.func14, Yba.ntmps14
  go_wp2_with fail
  refine (end_any f ws.length a cap _ (by omega)).mono ?_
  rintro e w1 ⟨rfl, hb⟩
  have h1 := H.out.below hb
  obtain ⟨hi0, hz0, hzs, hzb⟩ := HI.out
  obtain ⟨v', w', hrun, hown', hgrow, hblk⟩ := run_append_zeros_own (P := Yba.prog) w1 base 71 3 71 40 i0 (.int .u64 0) 8 .i64 .i64 Yba.underlying71 Yba.underlying3 hi0 hz0 hzs hzb rfl rfl _ ws.length _ h1.own (i + 1 - (f + ws.length)) (by omega) (by unfold maxLen; omega) (by omega) (Nat.le_trans hbase hb.size)
  rw [show ((i + 1 - (f + ws.length) : Nat) : Int) = (i : Int) + 1 - ((f : Int) + ws.length) by omega] at hrun
  have hf := Fr.of_grown hgrow b o 2 h1.blt h1.ne
  obtain ⟨g', cap', hv', _⟩ := owns_form hown' (by omega)
  have hc0' : w'.cell? ⟨b, o, none⟩ = some (.int .i64 f) := (World.cell?_of_block (hgrow.block b h1.blt (fun e => h1.ne e.symm))).trans h1.c0
  have hc1' : w'.cell? ⟨b, o + 1, none⟩ = some (.slice a ws.length cap) := (World.cell?_of_block (hgrow.block b h1.blt (fun e => h1.ne e.symm))).trans h1.c1
  have hz0' : w'.frozen? ⟨b, o, none⟩ = false := (hf.frz _).trans h1.z0
  have hz1' : w'.frozen? ⟨b, o + 1, none⟩ = false := (hf.frz _).trans h1.z1
  have hd0 := h1.c0
  have hd1 := h1.c1
  subst hv'
  have H1 : Hid _ := h1
  have HO : Hid _ := hown'
  have HG : Hid _ := hgrow
  have HB : Hid _ := hblk
  have HF : Hid _ := hf
  have HR : Hid _ := hrun
  clear h1 hown' hgrow hblk hf hi0 hz0 hzs hzb hrun
  go_wp2_with (at_builtin; go_must (refine Lib.wpList_append_run _ rfl _ _ 71 3 rfl _ _ rfl rfl _ _ HR.out ?_))
  go_end0
  have h1 := H1.out
  have h := H.out
  have hsz := hb.size
  have hne : (Value.slice (some ⟨g', 0, none⟩) (ws.length + (i + 1 - (f + ws.length))) cap').ownBlock ≠ some b := by
    rcases HB.out with e | e
    · exact fun e2 => h1.ne (e.symm.trans e2)
    · intro e2
      have := Option.some.inj (e.symm.trans e2)
      have := h1.blt
      omega
  refine ⟨rfl, .slice (some ⟨g', 0, none⟩) (ws.length + (i + 1 - (f + ws.length))) cap', ?_, ?_, ?_⟩
  · rw [covF_up _ _ _ hn hfi]
    refine bat_store1 hc0' hc1' hz0' hz1' ?_ hne (cov_lt f i ws h.lt) (by rw [covW_up _ _ _ hn hfi]; simp; omega)
    rw [covW_up _ _ _ hn hfi, encW_append, encW_replicate, List.length_append, List.length_replicate]
    exact HO.out
  · intro k hk
    rcases HB.out with e | e
    · exact .inl (e.symm.trans hk)
    · right
      have := Option.some.inj (e.symm.trans hk)
      omega
  · exact ((Fr.of_below hb b o 2 _ h.blt).trans HF.out (fun x hx => .inl hx)).setCell (o + 1) _ (by omega) (by omega)

/-- n zeros -/
def zrow (n : Nat) : Array Value := Array.replicate n (.int .u64 0)
theorem made_zrow (n : Nat) : madeCells #[Value.int .u64 0] n = zrow n := by
  unfold madeCells zrow
  apply Array.ext
  · simp
  · intro i h1 h2; simp [Nat.mod_one]
theorem run_make36 (n : Nat) (k : Int) (hk : k = n) (h : n ≤ 1000000) (w : World) : (Instr.makeSlice 71 (.int .i64 k) (.int .i64 k)).run Yba.prog w = .ok (.slice (some ⟨w.heap.size, 0, none⟩) n n) (w.alloc (.cells (zrow n) 40)) := by
  subst hk
  rw [← made_zrow]
  exact run_make_row' 71 40 (.int .u64 0) 8 Yba.underlying71 info22 rfl .i64 .i64 n (by omega) (by omega) w

theorem drewN_heap (w : World) (n : Nat) : (w.drewN n).heap = w.heap := rfl

theorem ownsRow_heap {w w' : World} {base : Nat} {e : TypeId} {size : Nat} {v : Value} {n : Nat} {xs : List Value} (h : w.ownsRow base e size v n xs) (hk : w'.heap = w.heap) : w'.ownsRow base e size v n xs :=
  ownsRow_of_block h (fun x _ => by rw [hk])

/-- The insertion inside cover, at the world where it stands. -/
theorem insert_at (b o base f i q nq : Nat) (ws : List Nat) (a : Option Addr) (cap : Nat) (w : World) (h : BAt w b o base f ws (.slice a ws.length cap)) (hbase : base ≤ w.heap.size) (hn : 0 < ws.length) (hfi : i < f) (hq : q ≤ i) :
    Calls Yba.prog 21 #[.slice a ws.length cap, .int .i64 0, .slice (some ⟨w.heap.size, 0, none⟩) (f - q) (f - q)] ((w.drewN nq).alloc (.cells (zrow (f - q)) 40)) fun e w1 =>
      ∃ g' cap', e = .returned (.slice (some ⟨g', 0, none⟩) (ws.length + (f - q)) cap') ∧ w1.cell? ⟨b, o, none⟩ = some (.int .i64 f) ∧ w1.cell? ⟨b, o + 1, none⟩ = some (.slice a ws.length cap) ∧ w1.frozen? ⟨b, o, none⟩ = false ∧ w1.frozen? ⟨b, o + 1, none⟩ = false ∧
        Hid (w1.ownsRow base 40 1 (.slice (some ⟨g', 0, none⟩) (ws.length + (f - q)) cap') (ws.length + (f - q)) (encW (List.replicate (f - q) 0 ++ ws)) ∧ some g' ≠ some b ∧ (some g' = (Value.slice a ws.length cap).ownBlock ∨ w.heap.size ≤ g') ∧
          Fr w w1 b o 2 (Value.slice a ws.length cap).ownBlock.toList) := by
  have hbd := h.bd
  have hblt := h.blt
  have hown1 : ((w.drewN nq).alloc (.cells (zrow (f - q)) 40)).ownsRow base 40 1 (.slice a ws.length cap) ws.length (encW ws) := (ownsRow_heap h.own (drewN_heap w nq)).alloc _
  have hB : Below w.heap.size w ((w.drewN nq).alloc (.cells (zrow (f - q)) 40)) := (show Below w.heap.size w (w.drewN nq) from ⟨rfl, rfl, rfl, Nat.le_refl _, fun _ _ => rfl⟩).alloc (Nat.le_refl _) _
  refine (insert_own base ws.length (f - q) w.heap.size _ (encW ws) _ hown1 hn (by omega) (encW_one ws) (heap_alloc_new (w.drewN nq) _) ?_ (Nat.le_trans hbase hB.size) (by omega)).mono ?_
  · intro e
    have := (h.olt _ e).2
    omega
  rintro e w1 ⟨v', rfl, hown', hgrow, hblk⟩
  obtain ⟨g', cap', rfl, _⟩ := owns_form hown' (by omega)
  have hfr := (Fr.of_below hB b o 2 (Value.slice a ws.length cap).ownBlock.toList h.blt).trans (Fr.of_grown hgrow b o 2 (Nat.lt_of_lt_of_le h.blt hB.size) h.ne) (fun x hx => .inl hx)
  have hbb : w1.heap[b]? = ((w.drewN nq).alloc (.cells (zrow (f - q)) 40)).heap[b]? := hgrow.block b (Nat.lt_of_lt_of_le h.blt hB.size) (fun e => h.ne e.symm)
  refine ⟨g', cap', rfl, ?_, ?_, (hfr.frz _).trans h.z0, (hfr.frz _).trans h.z1, ?_, ?_, ?_, hfr⟩
  · exact ((World.cell?_of_block hbb).trans (hB.cell (p := ⟨b, o, none⟩) h.blt)).trans h.c0
  · exact ((World.cell?_of_block hbb).trans (hB.cell (p := ⟨b, o + 1, none⟩) h.blt)).trans h.c1
  · rw [encW_append, encW_replicate]; exact hown'
  · rcases hblk with e | e
    · exact fun e2 => h.ne (e.symm.trans e2)
    · intro e2
      have := Option.some.inj (e.symm.trans e2)
      have : ((w.drewN nq).alloc (.cells (zrow (f - q)) 40)).heap.size = w.heap.size + 1 := by simp
      omega
  · rcases hblk with e | e
    · exact .inl e
    · right
      have : g' = ((w.drewN nq).alloc (.cells (zrow (f - q)) 40)).heap.size := Option.some.inj e
      have : ((w.drewN nq).alloc (.cells (zrow (f - q)) 40)).heap.size = w.heap.size + 1 := by simp
      omega

theorem cover_down_end {b o base f i q : Nat} {ws : List Nat} {a : Option Addr} {cap g' cap' : Nat} {w w1 w2 : World} (hn : 0 < ws.length) (hfi : i < f) (hq : q = min i (f - ws.length)) (h : BAt w b o base f ws (.slice a ws.length cap))
    (hd0 : w1.cell? ⟨b, o, none⟩ = some (.int .i64 f)) (hd1 : w1.cell? ⟨b, o + 1, none⟩ = some (.slice a ws.length cap)) (hdz0 : w1.frozen? ⟨b, o, none⟩ = false) (hdz1 : w1.frozen? ⟨b, o + 1, none⟩ = false)
    (HH : Hid (w1.ownsRow base 40 1 (.slice (some ⟨g', 0, none⟩) (ws.length + (f - q)) cap') (ws.length + (f - q)) (encW (List.replicate (f - q) 0 ++ ws)) ∧ some g' ≠ some b ∧ (some g' = (Value.slice a ws.length cap).ownBlock ∨ w.heap.size ≤ g') ∧
          Fr w w1 b o 2 (Value.slice a ws.length cap).ownBlock.toList))
    (hb2 : Below ((w1.setCell ⟨b, o + 1, none⟩ (.slice (some ⟨g', 0, none⟩) (ws.length + (f - q)) cap')).setCell ⟨b, o, none⟩ (.int .i64 q)).heap.size
      ((w1.setCell ⟨b, o + 1, none⟩ (.slice (some ⟨g', 0, none⟩) (ws.length + (f - q)) cap')).setCell ⟨b, o, none⟩ (.int .i64 q)) w2) :
    ∃ v', BAt w2 b o base (covF f ws i) (covW f ws i) v' ∧ (∀ k, v'.ownBlock = some k → (Value.slice a ws.length cap).ownBlock = some k ∨ w.heap.size ≤ k) ∧ Fr w w2 b o 2 (Value.slice a ws.length cap).ownBlock.toList := by
  obtain ⟨hown, hne, hblk, hfr⟩ := HH.out
  have hbd := h.bd
  have e1 : covF f ws i = q := by rw [covF_down _ _ _ hn hfi, hq]
  have e2 : covW f ws i = List.replicate (f - q) 0 ++ ws := by rw [covW_down _ _ _ hn hfi, hq]
  refine ⟨.slice (some ⟨g', 0, none⟩) (ws.length + (f - q)) cap', ?_, ?_, ?_⟩
  · rw [e1, e2]
    refine (bat_store2' (v' := .slice (some ⟨g', 0, none⟩) (ws.length + (f - q)) cap') hd0 hd1 hdz0 hdz1 ?_ hne (by rw [← e2]; exact cov_lt f i ws h.lt) (by simp only [List.length_append, List.length_replicate]; omega)).below hb2
    rw [List.length_append, List.length_replicate, Nat.add_comm (f - q)]
    exact hown
  · intro k hk
    have : g' = k := Option.some.inj hk
    rcases hblk with e | e
    · exact .inl (by rw [← e, this])
    · right; omega
  · have hblt : b < w1.heap.size := World.block_lt_of_cell? w1 _ hd0
    have h3 := (hfr.setCell (o + 1) (.slice (some ⟨g', 0, none⟩) (ws.length + (f - q)) cap') (by omega) (by omega)).setCell o (.int .i64 q) (Nat.le_refl _) (by omega)
    exact h3.trans (Fr.of_below hb2 b o 2 [] (by simpa [World.setCell] using hblt)) (fun x hx => by cases hx)

set_option maxRecDepth 100000 in
set_option maxHeartbeats 1000000 in
theorem cover_down (b o base f i : Nat) (ws : List Nat) (v : Value) (w : World) (h : BAt w b o base f ws v) (hbase : base ≤ w.heap.size) (hi : i < 64) (hn : 0 < ws.length) (hfi : i < f) :
    Calls Yba.prog 14 #[.pointer (some ⟨b, o, none⟩), .int .i64 i, .int .i64 ((i : Int) + 1)] w fun e w' => e = .returned (.tuple #[]) ∧
      ∃ v', BAt w' b o base (covF f ws i) (covW f ws i) v' ∧ (∀ k, v'.ownBlock = some k → v.ownBlock = some k ∨ w.heap.size ≤ k) ∧ Fr w w' b o 2 v.ownBlock.toList := by
  obtain ⟨a, cap, rfl, hl, hm⟩ := owns_slice h.own
  have hc0 := h.c0
  have hc1 := h.c1
  have H : Hid _ := h
  have hbd := h.bd
  have hl0 : ((ws.length : Int) == 0) = false := by rw [beq_eq_false_iff_ne]; omega
  clear h
  go_enter Yba.func14, Yba.ntmps14
  go_wp2_with fail
  obtain ⟨q, hq⟩ : ∃ q, q = min i (f - ws.length) := ⟨_, rfl⟩
  have hq1 : q ≤ i := by omega
  have HQ : Hid _ := hq
  go_cut [1] (fun t wc => t = .int .i64 (q : Int) ∧ ∃ nq, wc = w.drewN nq)
  case first =>
    clear hq
    go_quiet (fail)
    go_wp2_with fail
    all_goals (go_meet; have hq := HQ.out; exact ⟨congrArg (Value.int .i64) (by omega), _, rfl⟩)
  case rest =>
    obtain ⟨rfl, nq, rfl⟩ := hcut
    have h := H.out
    have hmk := run_make36 (f - q) ((f : Int) - q) (by omega) (by omega)
    have hwr : IntKind.i64.wrap ((f : Int) - q) = (f : Int) - q := by rw [IntKind.wrap_i64]; omega
    have hn1 : w.heap.size ≠ b := by have := h.blt; omega
    have hblt := h.blt
    have ha0 : ∀ k ob, ((w.drewN k).alloc ob).cell? ⟨b, o, none⟩ = some (.int .i64 f) := fun k ob => (World.cell?_alloc_past (w := w.drewN k) ob b o h.blt).trans h.c0
    have ha1 : ∀ k ob, ((w.drewN k).alloc ob).cell? ⟨b, o + 1, none⟩ = some (.slice a ws.length cap) := fun k ob => (World.cell?_alloc_past (w := w.drewN k) ob b (o + 1) h.blt).trans h.c1
    have HI : Hid _ := fun nq => insert_at b o base f i q nq ws a cap w h hbase hn hfi hq1
    clear hq h
    go_wp2_with fail
    go_region_with (go_at_call 21; refine (HI.out _).mono ?_; rintro e w1 ⟨g', cap', rfl, hd0, hd1, hdz0, hdz1, HH⟩)
    all_goals
      clear ha0 ha1 HI hmk hc0 hc1
      go_wp2_with fail
      refine (end_any q (ws.length + (f - q)) _ _ _ (by omega)).mono ?_
      rintro e w2 ⟨rfl, hb2⟩
      go_wp2
      go_end0
      have hq := HQ.out
      exact ⟨rfl, cover_down_end hn hfi hq H.out hd0 hd1 hdz0 hdz1 HH hb2⟩

/-- cover(i, i+1), every way. -/
theorem cover_any (b o base f i : Nat) (ws : List Nat) (v : Value) (w : World) (h : BAt w b o base f ws v) (hbase : base ≤ w.heap.size) (hi : i < 64) :
    Calls Yba.prog 14 #[.pointer (some ⟨b, o, none⟩), .int .i64 i, .int .i64 ((i : Int) + 1)] w fun e w' => e = .returned (.tuple #[]) ∧
      ∃ v', BAt w' b o base (covF f ws i) (covW f ws i) v' ∧ (∀ k, v'.ownBlock = some k → v.ownBlock = some k ∨ w.heap.size ≤ k) ∧ Fr w w' b o 2 v.ownBlock.toList := by
  by_cases h0 : ws.length = 0
  · exact cover_nil b o base f i ws v w h hbase hi h0
  by_cases h1 : i < f
  · exact cover_down b o base f i ws v w h hbase hi (by omega) h1
  by_cases h2 : i + 1 ≤ f + ws.length
  · exact cover_in b o base f i ws v w h (by omega) (by omega) h2
  · exact cover_up b o base f i ws v w h hbase hi (by omega) (by omega) (by omega)

end Go.Proofs.Ybulkcuks
