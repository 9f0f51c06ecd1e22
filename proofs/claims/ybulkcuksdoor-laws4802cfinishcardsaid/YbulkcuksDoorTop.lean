/-
  How the rows' arguments and the listed table are opened.
-/
import Derived.Test.YbulkcuksDoorRows
import Derived.Test.YbulkcuksDoorWant
import Derived.ProofKit
import Derived.LaidMore
import Derived.OpenShut
import Derived.ShutString
import Derived.ChangeOld
import Derived.Stop.Joined
import Derived.Lib.LaidTab
namespace Go.Proofs.YbulkcuksDoor
open Go.ChangeShapes Go.WideShapes Go.ChangeAt Go.RowKit
set_option maxRecDepth 100000

theorem own : ownKnob Ybad.prog.godebug = none := by kernel_rfl
theorem laidOut : laidOutB Ybad.prog = true := by kernel_rfl
/-- the listed table's name -/
def tabName : String := Rows.lawS4802CFinishRow.named.headD ""
theorem gTab : Ybad.prog.globalNamed tabName = some 0 := by kernel_rfl
theorem tTab : (Ybad.prog.globals[0]?).map (·.type) = some 85 := by kernel_rfl

theorem array6 {α : Type} {cs : Array α} (h : cs.size = 6) : ∃ c0 c1 c2 c3 c4 c5, cs = #[c0, c1, c2, c3, c4, c5] := by
  obtain ⟨l⟩ := cs
  match l, h with
  | [c0, c1, c2, c3, c4, c5], _ => exact ⟨c0, c1, c2, c3, c4, c5, rfl⟩

/-- A ZzS4802CMeta by value. -/
theorem open_m {H : Type} {enc : TypeId × Value → H} {w : World} {base : Nat} {spare : Nat → Bool} {held : Bool} {r : Reach} {b0 : Nat} {v : Value} {d : DataW H} {p : List MemPlace}
    (hv : Value.okWide Ybad.prog w r b0 25 v) (h : DataW.Trod enc Ybad.prog w base spare held 25 v d p) :
    ∃ o0 o1 o2 o3 o4 o5 : Int, v = .agg #[.int .u64 o0, .int .u32 o1, .int .u32 o2, .int .u32 o3, .int .u32 o4, .int .i64 o5] := by
  obtain ⟨cs, rfl, hsz⟩ := okWide_struct Ybad.underlying25 hv
  have h25 : Ybad.prog.cellsOf 25 = 6 := by kernel_rfl
  have h22 : Ybad.prog.cellsOf 22 = 1 := by kernel_rfl
  have h23 : Ybad.prog.cellsOf 23 = 1 := by kernel_rfl
  have h2 : Ybad.prog.cellsOf 2 = 1 := by kernel_rfl
  obtain ⟨c0, c1, c2, c3, c4, c5, rfl⟩ := array6 (hsz.trans h25)
  obtain ⟨fuel, hf⟩ := h
  obtain ⟨xs, n, _, _, _, hlen, hg⟩ := DataW.trod_struct Ybad.underlying25 hf
  have hl6 : xs.length = 6 := hlen
  have g0 := hg 0 _ rfl
  have g1 := hg 1 _ rfl
  have g2 := hg 2 _ rfl
  have g3 := hg 3 _ rfl
  have g4 := hg 4 _ rfl
  have g5 := hg 5 _ rfl
  simp only [Value.cells] at g0 g1 g2 g3 g4 g5
  rw [List.getElem?_eq_getElem (by omega)] at g0 g1 g2 g3 g4 g5
  obtain ⟨o0, e0, _⟩ := DataW.trod_int Ybad.underlying22 g0
  obtain ⟨o1, e1, _⟩ := DataW.trod_int Ybad.underlying23 g1
  obtain ⟨o2, e2, _⟩ := DataW.trod_int Ybad.underlying23 g2
  obtain ⟨o3, e3, _⟩ := DataW.trod_int Ybad.underlying23 g3
  obtain ⟨o4, e4, _⟩ := DataW.trod_int Ybad.underlying23 g4
  obtain ⟨o5, e5, _⟩ := DataW.trod_int Ybad.underlying2 g5
  simp [h22, h23, h2] at e0 e1 e2 e3 e4 e5
  subst e0 e1 e2 e3 e4 e5
  exact ⟨o0, o1, o2, o3, o4, o5, rfl⟩

/-- A []uint32 that came in. -/
theorem open_row {H : Type} {enc : TypeId × Value → H} {w : World} {base : Nat} {held : Bool} {a : Option Addr} {len cap : Nat} {d : DataW H} {p : List MemPlace}
    (h : DataW.Trod enc Ybad.prog w base (fun _ => true) held 26 (.slice a len cap) d p) : ∃ xs, Row32 w w.heap.size a len xs := by
  obtain ⟨fuel, hf⟩ := h
  rcases open_ints Ybad.underlying26 Ybad.underlying23 (by kernel_rfl) hf with ⟨hcs, _⟩ | ⟨x, l, c, zs, hcs, _, hl, hm, hz, _, hcell, hwz⟩
  · simp [Value.cells] at hcs
    obtain ⟨rfl, rfl, rfl⟩ := hcs
    exact ⟨[], rfl, (fun x hx => by cases hx), 0, 0, (fun h => by omega), (fun k hk => by omega)⟩
  · simp [Value.cells] at hcs
    obtain ⟨rfl, rfl, rfl⟩ := hcs
    simp only [if_true] at hz
    by_cases h0 : 0 < len
    · obtain ⟨b, off, rfl, hc⟩ := ints_at hcell (by omega)
      have hrange : ∀ z ∈ zs, 0 ≤ z ∧ z ≤ 4294967295 := fun z hzz => by
        have := hwz z hzz
        simp [Lit.wf, IntKind.min, IntKind.max, IntKind.signed, IntKind.bits] at this
        omega
      have hcx : ∀ k, k < len → w.cell? ⟨b, off + k, none⟩ = some (.int .u32 (((zs.take len).map Int.toNat).getD k 0 : Nat)) := fun k hk => by
        rw [hc k (by omega)]
        have hkz : k < zs.length := by omega
        have e1 : zs.getD k 0 = zs[k] := by rw [List.getD_eq_getElem?_getD, List.getElem?_eq_getElem hkz]; rfl
        have e2 : ((zs.take len).map Int.toNat).getD k 0 = zs[k].toNat := by
          rw [List.getD_eq_getElem?_getD, List.getElem?_map, List.getElem?_take, if_pos hk, List.getElem?_eq_getElem hkz]; rfl
        rw [e1, e2, Int.toNat_of_nonneg (hrange _ (List.getElem_mem _)).1]
      refine ⟨(zs.take len).map Int.toNat, by rw [List.length_map, List.length_take]; omega, ?_, b, off, fun _ => ⟨rfl, World.block_lt_of_cell? w _ (hcx 0 h0)⟩, hcx⟩
      intro y hy
      obtain ⟨z, hzz, rfl⟩ := List.mem_map.1 hy
      have := hrange z (List.mem_of_mem_take hzz)
      omega
    · obtain rfl : len = 0 := by omega
      exact ⟨[], rfl, (fun x hx => by cases hx), 0, 0, (fun h => by omega), (fun k hk => by omega)⟩

def laidT : List (String × DataW Unit) := [(tabName, Rows.laid_math_bits_deBruijn64tab)]

/-- The door's own heap meets the condition. -/
theorem door_met (os : Os) (args : Array Value) : laidMetH Ybad.prog laidT ((World.doorLaid Ybad.prog 400 os).forCall (fun _ _ => 0) ⟨#[], args, []⟩).memory :=
  laidMetH_of_parts3 (fuel := 8) (laidMet_of_run' 8 (by kernel_rfl) (by kernel_rfl)) (by kernel_rfl) (by kernel_rfl)

/-- What the condition gives the walk: the table. -/
theorem of_laid {W : World} (h : laidMetH Ybad.prog laidT W) : TabAt W ∧ 0 < W.heap.size := by
  rw [MakeChecks.laidMetH_plain _ _ _ (by kernel_rfl)] at h
  have h5 : Ybad.prog.cellsOf 5 = 1 := by kernel_rfl
  have h85 : Ybad.prog.cellsOf 85 = 64 := by kernel_rfl
  have ht := Lib.tabIs_of_head (k := .u8) (zs := Lib.deBruijn64tab.map Int.ofNat) (rest := []) gTab tTab Ybad.underlying85 Ybad.underlying5 h5 h85 h
  have hT : TabAt W := fun j hj => by
    rw [ht.cell gTab j (by simpa [Lib.deBruijn64tab] using hj)]
    congr 2
    rw [List.getD_eq_getElem?_getD, List.getD_eq_getElem?_getD, List.getElem?_map]
    cases (Lib.deBruijn64tab)[j]? <;> rfl
  exact ⟨hT, World.block_lt_of_cell? W _ (hT 0 (by omega))⟩

end Go.Proofs.YbulkcuksDoor
