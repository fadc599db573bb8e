/-
  THE WALK OF ZZNewPath.
-/
import Derived.Test.Qxb6003658aDoorWalkA
import Derived.BigRegion
namespace Go.Proofs.Qxb6003658aDoor
open Go.RowKit
theorem info33 : (Tryd.prog.info? 33).map (fun i => (i.zero, i.size, i.bytes)) = some (some (.agg #[.string ⟨#[]⟩, .int .i64 0]), 2, 24) := by kernel_rfl

def Fill2 (w wr : World) (n k : Nat) (ns : Nat → ByteArray) (is : Nat → Int) : Prop :=
  ∃ xs : List Value, xs.length = n * 2 ∧ wr.ownsRow w.heap.size 33 2 (.slice (some ⟨w.heap.size, 0, none⟩) n n) n xs ∧ (∀ j, j < k → xs[j * 2]? = some (.string (ns j)) ∧ xs[j * 2 + 1]? = some (.int .i64 (is j))) ∧ Below w.heap.size w wr ∧ w.heap.size < wr.heap.size

theorem Fill2.cell {w wr : World} {n k : Nat} {ns : Nat → ByteArray} {is : Nat → Int} (h : Fill2 w wr n k ns is) (j : Nat) (hj : j < n * 2) : ∃ v, wr.cell? ⟨w.heap.size, j, none⟩ = some v ∧ wr.frozen? ⟨w.heap.size, j, none⟩ = false := by
  obtain ⟨xs, hl, hown, _, _⟩ := h
  exact ⟨xs[j]'(by omega), by rw [hown.cellAt j (by omega), List.getElem?_eq_getElem], hown.frozenAt j⟩

theorem Fill2.step {w wr : World} {n k : Nat} {ns : Nat → ByteArray} {is : Nat → Int} (h : Fill2 w wr n k ns is) (hk : k < n) :
    Fill2 w ((wr.setCell ⟨w.heap.size, k * 2, none⟩ (.string (ns k))).setCell ⟨w.heap.size, k * 2 + 1, none⟩ (.int .i64 (is k))).drew n (k + 1) ns is := by
  obtain ⟨xs, hl, hown, hx, hb, hs⟩ := h
  refine ⟨(xs.set (k * 2) (.string (ns k))).set (k * 2 + 1) (.int .i64 (is k)), by simpa using hl, (((hown.stored _ _).1).stored _ _).1.drew, ?_, ((hb.setCell (by simp) _).setCell (by simp) _).drew, by simpa [World.setCell] using hs⟩
  intro j hj
  rw [List.getElem?_set, List.getElem?_set, List.getElem?_set, List.getElem?_set]
  by_cases e : k = j
  · subst e
    rw [if_neg (by omega), if_pos rfl, if_pos (by omega), if_pos rfl, if_pos (by simp; omega)]
    exact ⟨rfl, rfl⟩
  · rw [if_neg (by omega), if_neg (by omega), if_neg (by omega), if_neg (by omega)]; exact hx j (by omega)

/-- What ZZNewPath leaves at p: a Path of n steps. -/
def PathAt (w : World) (p : Nat) (n : Nat) (ln : Int) (ns : Nat → ByteArray) (is : Nat → Int) : Prop :=
  ∃ g, p < w.heap.size ∧ g < w.heap.size ∧ w.cell? ⟨p, 0, none⟩ = some (.slice (some ⟨g, 0, none⟩) n n) ∧ w.cell? ⟨p, 1, none⟩ = some (.int .i64 ln) ∧
    ∀ j, j < n → w.cell? ⟨g, j * 2, none⟩ = some (.string (ns j)) ∧ w.cell? ⟨g, j * 2 + 1, none⟩ = some (.int .i64 (is j))

theorem Fill2.path {w wr : World} {n : Nat} {ns : Nat → ByteArray} {is : Nat → Int} (h : Fill2 w wr n n ns is) (ln : Int) :
    PathAt (wr.alloc (.cells #[.slice (some ⟨w.heap.size, 0, none⟩) n n, .int .i64 ln] 35)) wr.heap.size n ln ns is ∧ Below w.heap.size w (wr.alloc (.cells #[.slice (some ⟨w.heap.size, 0, none⟩) n n, .int .i64 ln] 35)) := by
  obtain ⟨xs, hl, hown, hx, hb, hs⟩ := h
  refine ⟨⟨w.heap.size, by simp, by simp; omega, by simp, by simp, fun j hj => ?_⟩, hb.alloc hb.size _⟩
  have h0 := hown.cellAt (j * 2) (by omega)
  have h1 := hown.cellAt (j * 2 + 1) (by omega)
  rw [(hx j hj).1] at h0
  rw [(hx j hj).2] at h1
  have hA : Below wr.heap.size wr (wr.alloc (.cells #[.slice (some ⟨w.heap.size, 0, none⟩) n n, .int .i64 ln] 35)) := (Below.refl _ _).alloc (Nat.le_refl _) _
  exact ⟨(hA.cell hs).trans h0, (hA.cell hs).trans h1⟩

set_option maxHeartbeats 400000 in
theorem newPath_any (a a2 : Option Addr) (n c n2 c2 : Nat) (ln : Int) (ns : Nat → ByteArray) (is : Nat → Int) (w : World) (hn : n ≤ 65536) (hn2 : n ≤ n2) (hn3 : n2 ≤ maxLen)
    (h : Row w a n (fun j => .string (ns j))) (h2 : Row w a2 n (fun j => .int .i64 (is j))) :
    Calls Tryd.prog 7 #[.slice a n c, .slice a2 n2 c2, .int .i64 ln] w fun e w' => ∃ p : Nat, e = .returned (.pointer (some ⟨p, 0, none⟩)) ∧ PathAt w' p n ln ns is ∧ Below w.heap.size w w' := by
  obtain ⟨i0, hi, hz0, hz1, hz2⟩ := info_parts info33
  unfold maxLen at hn3
  go_enter Tryd.func7, Tryd.ntmps7
  go_wp2_with (first
    | (at_make; refine wpList_make_full _ rfl _ _ 31 rfl w.heap.size 33 i0 (.agg #[.string ⟨#[]⟩, .int .i64 0]) 2 Tryd.underlying31 hi hz0 hz1 .i64 .i64 _ _ n rfl rfl rfl rfl (by rw [hz2]; omega) (by unfold maxLen; omega) (by simp) ?_; intro w1 hown hgrow)
    | go_in)
  have hF : Fill2 w w1 n 0 ns is :=
    ⟨_, by simp [madeCells], hown, fun j hj => absurd hj (by omega), (Below.refl _ _).grown hgrow (Nat.le_refl _) (fun k hk => by cases hk), owned_lt hown⟩
  clear hown hgrow
  go_loopw [8] (fun i wr => ∃ k : Nat, k ≤ n ∧ i = .int .i64 k ∧ Fill2 w wr n k ns is) (fun i _ => n - (intOf i).toNat)
  case atStart => exact ⟨0, by omega, by go_num, hF⟩
  case round =>
    obtain ⟨k, hk, rfl, hR⟩ := hrel
    clear hF
    by_cases hlt : k < n
    · rcases h with h | ⟨b, off, rfl, hb, hc⟩
      · omega
      rcases h2 with h2 | ⟨b2, off2, rfl, hb2, hc2⟩
      · omega
      have hck : wr.cell? ⟨b, off + k, none⟩ = some (.string (ns k)) := by
        obtain ⟨xs, _, _, _, hbel, _⟩ := hR
        exact (hbel.cell hb).trans (hc k hlt)
      have hck2 : wr.cell? ⟨b2, off2 + k, none⟩ = some (.int .i64 (is k)) := by
        obtain ⟨xs, _, _, _, hbel, _⟩ := hR
        exact (hbel.cell hb2).trans (hc2 k hlt)
      have hlt2 : (k : Int) < (n2 : Int) := by omega
      obtain ⟨v0, hv0, hf0⟩ := hR.cell (k * 2) (by omega)
      obtain ⟨v1, hv1, hf1⟩ := hR.cell (k * 2 + 1) (by omega)
      go_wp2
      go_region
      all_goals (try go_wp2)
      all_goals go_roundw
      case rel => exact ⟨k + 1, by omega, by go_num, hR.step hlt⟩
      case measure => simp [intOf]; omega
    · obtain rfl : k = n := by omega
      go_wp2
      go_ret
      exact ⟨_, rfl, hR.path ln⟩
end Go.Proofs.Qxb6003658aDoor
