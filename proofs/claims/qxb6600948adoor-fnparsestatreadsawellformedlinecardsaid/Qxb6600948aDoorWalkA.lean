/-
  THE WALKS OF THE SMALL FUNCTIONS: zzBytes, IsSpace, HasClose, CloneBytes.
-/
import Derived.Test.Qxb6600948aDoorProg
import Derived.WalkKit
import Derived.RegionTactic
import Derived.Lib.SliceRun
import Derived.Lib.Space
namespace Go.Proofs.Qxb6600948aDoor
open Go.RowKit

theorem info5 : (Tryd.prog.info? 5).map (fun i => (i.zero, i.size, i.bytes)) = some (some (.int .u8 0), 1, 1) := by kernel_rfl

/-- A slice of n cells that hold f 0, f 1 .. -/
def Row (w : World) (a : Option Addr) (n : Nat) (f : Nat → Value) : Prop :=
  n = 0 ∨ ∃ b off, a = some ⟨b, off, none⟩ ∧ b < w.heap.size ∧ ∀ j, j < n → w.cell? ⟨b, off + j, none⟩ = some (f j)

theorem Row.below {w w' : World} {a : Option Addr} {n : Nat} {f : Nat → Value} (h : Row w a n f) (hb : Below w.heap.size w w') : Row w' a n f := by
  rcases h with h | ⟨b, off, rfl, hlt, hc⟩
  · exact .inl h
  · exact .inr ⟨b, off, rfl, Nat.lt_of_lt_of_le hlt hb.size, fun j hj => (hb.cell hlt).trans (hc j hj)⟩

/-- Bytes as cells. -/
def B8 (g : Nat → UInt8) (j : Nat) : Value := .int .u8 ((g j).toNat : Int)

/-- A bool. -/
def RetB (e : Ending) : Prop := ∃ b, e = .returned (.bool b)

theorem zz_any (a a2 : Option Addr) (n c n2 c2 : Nat) (x1 x2 x4 x5 : Int) (x3 x6 : Int) (w : World) (hn : n ≤ maxLen) (hn2 : n2 ≤ maxLen) :
    Calls Tryd.prog 6 #[.int .i64 x1, .int .i64 x2, .slice a n c, .int .u8 x3, .int .i64 x4, .int .i64 x5, .int .u64 x6, .slice a2 n2 c2] w fun e w' => RetB e ∧ w' = w := by
  unfold maxLen at *
  go_enter Tryd.func6, Tryd.ntmps6
  go_wp2
  all_goals
    go_ret
    exact ⟨⟨_, rfl⟩, rfl⟩

theorem isSpace_any (c : UInt8) (w : World) : Calls Tryd.prog 7 #[.int .u8 (c.toNat : Int)] w fun e w' => e = .returned (.bool (Lib.isSp c)) ∧ w' = w := by
  have key : Lib.isSp c = ((c.toNat : Int) == 9 || (c.toNat : Int) == 10 || (c.toNat : Int) == 11 || (c.toNat : Int) == 12 || (c.toNat : Int) == 13 || (c.toNat : Int) == 32) := by
    unfold Lib.isSp
    have h : ∀ k : UInt8, (c == k) = ((c.toNat : Int) == (k.toNat : Int)) := fun k => by
      rw [Bool.eq_iff_iff]; simp [← UInt8.toNat_inj]; omega
    rw [h, h, h, h, h, h]; rfl
  rw [key]
  obtain ⟨x, hx⟩ : ∃ x : Int, x = (c.toNat : Int) := ⟨_, rfl⟩
  rw [← hx]
  clear hx key
  go_enter Tryd.func7, Tryd.ntmps7
  go_wp2
  all_goals
    go_ret
    refine ⟨?_, rfl⟩
    simp_all
/-- A bool; where it is false no byte is a closing bracket. -/
def RetC (e : Ending) (n : Nat) (f : Nat → UInt8) : Prop := ∃ b, e = .returned (.bool b) ∧ (b = false → ∀ j, j < n → f j ≠ 41)

theorem hasClose_any (a : Option Addr) (n c : Nat) (f : Nat → UInt8) (w : World) (hn : n ≤ 1048576) (h : Row w a n (B8 f)) :
    Calls Tryd.prog 8 #[.slice a n c] w fun e w' => RetC e n f ∧ w' = w := by
  go_enter Tryd.func8, Tryd.ntmps8
  go_wp2
  go_loop [3] (fun i => ∃ k : Nat, k ≤ n ∧ i = .int .i64 k ∧ ∀ j, j < k → f j ≠ 41) (fun i => n - (intOf i).toNat)
  case atStart => exact ⟨0, by omega, by go_num, fun j hj => absurd hj (by omega)⟩
  case round =>
    obtain ⟨k, hk, rfl, hall⟩ := hrel
    by_cases hlt : k < n
    · rcases h with h | ⟨b, off, rfl, hb, hc⟩
      · omega
      have hck : w.cell? ⟨b, off + k, none⟩ = some (.int .u8 ((f k).toNat : Int)) := hc k hlt
      clear hc
      by_cases h41 : f k = 41
      · have ht : (((f k).toNat : Int) == 41) = true := by rw [h41]; rfl
        have H41 : Hid (f k = 41) := h41
        have HA : Hid (∀ j, j < k → f j ≠ 41) := hall
        clear h41 hall
        go_wp2
        go_ret
        exact ⟨⟨_, rfl, fun h => by cases h⟩, rfl⟩
      · have ht : (((f k).toNat : Int) == 41) = false := by
          simp only [beq_eq_false_iff_ne, ne_eq]
          intro e
          exact h41 (UInt8.toNat_inj.1 (show (f k).toNat = 41 by omega))
        have H41 : Hid (¬ f k = 41) := h41
        have HA : Hid (∀ j, j < k → f j ≠ 41) := hall
        clear h41 hall
        go_wp2
        go_round
        case rel =>
          refine ⟨k + 1, by omega, by go_num, fun j hj => ?_⟩
          by_cases e : j = k
          · subst e; exact H41.out
          · exact HA.out j (by omega)
        case measure => simp [intOf]; omega
    · obtain rfl : k = n := by omega
      have HA : Hid (∀ j, j < k → f j ≠ 41) := hall
      clear hall
      go_wp2
      go_ret
      exact ⟨⟨_, rfl, fun _ => HA.out⟩, rfl⟩

theorem nil_some (ad : Addr) (n c : Nat) (w : World) : (binOp .eql 22 (.slice (some ad) n c) (.slice none 0 0)).run Tryd.prog w = .ok (.bool false) w :=
  Lib.run_eql_slice_nil (P := Tryd.prog) w 22 5 (some ad) n c 0 0 Tryd.underlying22
theorem nil_none (w : World) : (binOp .eql 22 (.slice none 0 0) (.slice none 0 0)).run Tryd.prog w = .ok (.bool true) w :=
  Lib.run_eql_slice_nil (P := Tryd.prog) w 22 5 none 0 0 0 0 Tryd.underlying22

/-- The row under the hand: the first k cells are written. -/
def Fill (w wr : World) (e : TypeId) (n k : Nat) (f : Nat → Value) : Prop :=
  ∃ xs : List Value, xs.length = n ∧ wr.ownsRow w.heap.size e 1 (.slice (some ⟨w.heap.size, 0, none⟩) n n) n xs ∧ (∀ j, j < k → xs[j]? = some (f j)) ∧ Below w.heap.size w wr ∧ w.heap.size < wr.heap.size

theorem owned_lt {w : World} {base : Nat} {e : TypeId} {size g n cap : Nat} {xs : List Value} (h : w.ownsRow base e size (.slice (some ⟨g, 0, none⟩) n cap) n xs) : g < w.heap.size := by
  rcases h.2 with ⟨h', _⟩ | ⟨g', cap', cur, h', hb, hg, _⟩
  · simp at h'
  · simp only [Value.slice.injEq, Option.some.injEq, Addr.mk.injEq, and_true, true_and] at h'
    obtain ⟨rfl, rfl⟩ := h'
    exact (Array.getElem?_eq_some_iff.1 hg).1

theorem Fill.cell {w wr : World} {e : TypeId} {n k : Nat} {f : Nat → Value} (h : Fill w wr e n k f) (j : Nat) (hj : j < n) : ∃ v, wr.cell? ⟨w.heap.size, j, none⟩ = some v ∧ wr.frozen? ⟨w.heap.size, j, none⟩ = false := by
  obtain ⟨xs, hl, hown, _, _⟩ := h
  exact ⟨xs[j]'(by omega), by rw [hown.cellAt j (by omega), List.getElem?_eq_getElem], hown.frozenAt j⟩

theorem Fill.step {w wr : World} {e : TypeId} {n k : Nat} {f : Nat → Value} (h : Fill w wr e n k f) (hk : k < n) : Fill w (wr.setCell ⟨w.heap.size, k, none⟩ (f k)) e n (k + 1) f := by
  obtain ⟨xs, hl, hown, hx, hb, hs⟩ := h
  refine ⟨xs.set k (f k), by simpa using hl, (hown.stored k (f k)).1, ?_, hb.setCell (by simp) _, by simpa [World.setCell] using hs⟩
  intro j hj
  rw [List.getElem?_set]
  by_cases e : k = j
  · subst e; simp [hl, hk]
  · rw [if_neg e]; exact hx j (by omega)

theorem Fill.row {w wr : World} {e : TypeId} {n : Nat} {f : Nat → Value} (h : Fill w wr e n n f) : Row wr (some ⟨w.heap.size, 0, none⟩) n f ∧ Below w.heap.size w wr := by
  obtain ⟨xs, hl, hown, hx, hb, hs⟩ := h
  exact ⟨.inr ⟨w.heap.size, 0, rfl, hs, fun j hj => by rw [Nat.zero_add, hown.cellAt j (by omega)]; exact hx j hj⟩, hb⟩

set_option maxHeartbeats 400000 in
theorem clone_some (ad : Addr) (n c : Nat) (f : Nat → UInt8) (w : World) (hn : n ≤ 1048576)
    (h : Row w (some ad) n (B8 f)) :
    Calls Tryd.prog 9 #[.slice (some ad) n c] w fun e w' => e = .returned (.slice (some ⟨w.heap.size, 0, none⟩) n n) ∧ Row w' (some ⟨w.heap.size, 0, none⟩) n (B8 f) ∧ Below w.heap.size w w' := by
  obtain ⟨i0, hi, hz0, hz1, hz2⟩ := info_parts info5
  have hnil := nil_some ad n c w
  go_enter Tryd.func9, Tryd.ntmps9
  go_wp2_with (first
    | (at_make; refine wpList_make_full _ rfl _ _ 22 rfl w.heap.size 5 i0 (.int .u8 0) 1 Tryd.underlying22 hi hz0 hz1 .i64 .i64 _ _ n rfl rfl rfl rfl (by rw [hz2]; omega) (by unfold maxLen; omega) (by simp) ?_; intro w1 hown hgrow)
    | go_in)
  have hF : Fill w w1 5 n 0 (B8 f) :=
    ⟨_, by simp [madeCells], hown, fun j hj => absurd hj (by omega), (Below.refl _ _).grown hgrow (Nat.le_refl _) (fun k hk => by cases hk), owned_lt hown⟩
  clear hown hgrow
  go_loopw [4] (fun i wr => ∃ k : Nat, k ≤ n ∧ i = .int .i64 k ∧ Fill w wr 5 n k (B8 f)) (fun i _ => n - (intOf i).toNat)
  case atStart => exact ⟨0, by omega, by go_num, hF⟩
  case round =>
    obtain ⟨k, hk, rfl, hR⟩ := hrel
    clear hF
    by_cases hlt : k < n
    · rcases h with h | ⟨b, off, he, hb, hc⟩
      · omega
      obtain rfl := Option.some.inj he
      obtain ⟨v, hv, hfz⟩ := hR.cell k hlt
      have hck : wr.cell? ⟨b, off + k, none⟩ = some (.int .u8 ((f k).toNat : Int)) := by
        obtain ⟨xs, _, _, _, hbel, _⟩ := hR
        exact (hbel.cell hb).trans (hc k hlt)
      go_wp2
      go_roundw
      case rel => exact ⟨k + 1, by omega, by go_num, hR.step hlt⟩
      case measure => simp [intOf]; omega
    · obtain rfl : k = n := by omega
      go_wp2
      go_ret
      exact ⟨rfl, hR.row⟩
theorem clone_none (w : World) : Calls Tryd.prog 9 #[.slice none 0 0] w fun e w' => e = .returned (.slice none 0 0) ∧ w' = w := by
  have hnil := nil_none w
  go_enter Tryd.func9, Tryd.ntmps9
  go_wp2
  go_ret
  exact ⟨rfl, rfl⟩

/-- The copy holds what the slice holds; nothing old has turned. -/
theorem clone_any (a : Option Addr) (n c : Nat) (f : Nat → UInt8) (w : World) (hn : n ≤ 1048576) (hnil : a = none → n = 0 ∧ c = 0) (h : Row w a n (B8 f)) :
    Calls Tryd.prog 9 #[.slice a n c] w fun e w' => ∃ a', e = .returned (.slice a' n n) ∧ (a' = none → n = 0) ∧ Row w' a' n (B8 f) ∧ Below w.heap.size w w' := by
  cases a with
  | none =>
    obtain ⟨rfl, rfl⟩ := hnil rfl
    refine (clone_none w).mono ?_
    rintro e w' ⟨rfl, rfl⟩
    exact ⟨_, rfl, fun _ => rfl, .inl rfl, Below.refl _ _⟩
  | some ad =>
    refine (clone_some ad n c f w hn h).mono ?_
    rintro e w' ⟨rfl, h1, h2⟩
    exact ⟨_, rfl, (fun h => by cases h), h1, h2⟩
end Go.Proofs.Qxb6600948aDoor
