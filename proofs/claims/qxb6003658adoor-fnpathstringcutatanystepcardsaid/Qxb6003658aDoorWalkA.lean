/-
  THE WALKS OF THE SMALL FUNCTIONS: zzBytes, cloneStrings, cloneInts.
-/
import Derived.Test.Qxb6003658aDoorProg
import Derived.WalkKit
import Derived.RegionTactic
import Derived.Lib.SliceRun
namespace Go.Proofs.Qxb6003658aDoor
open Go.RowKit

theorem info9 : (Tryd.prog.info? 9).map (fun i => (i.zero, i.size, i.bytes)) = some (some (.string ⟨#[]⟩), 1, 16) := by kernel_rfl
theorem info3 : (Tryd.prog.info? 3).map (fun i => (i.zero, i.size, i.bytes)) = some (some (.int .i64 0), 1, 8) := by kernel_rfl

def Row (w : World) (a : Option Addr) (n : Nat) (f : Nat → Value) : Prop :=
  n = 0 ∨ ∃ b off, a = some ⟨b, off, none⟩ ∧ b < w.heap.size ∧ ∀ j, j < n → w.cell? ⟨b, off + j, none⟩ = some (f j)

/-- A bool; where it is true every name is short. -/
def RetZ (e : Ending) (n : Nat) (ns : Nat → ByteArray) : Prop := ∃ b, e = .returned (.bool b) ∧ (b = true → ∀ j, j < n → (ns j).size ≤ 1048576)
def Short (k : Nat) (ns : Nat → ByteArray) : Prop := ∀ j, j < k → (ns j).size ≤ 1048576

set_option maxHeartbeats 400000 in
theorem zz_any (a a2 : Option Addr) (n c n2 c2 : Nat) (len k : Int) (ns : Nat → ByteArray) (hsz : ∀ j, j < n → (ns j).size ≤ maxLen) (w : World) (hn : n ≤ maxLen) (hn2 : n2 ≤ maxLen)
    (h : Row w a n (fun j => .string (ns j))) :
    Calls Tryd.prog 4 #[.slice a n c, .slice a2 n2 c2, .int .i64 len, .int .i64 k] w fun e w' => RetZ e n ns ∧ w' = w := by
  unfold maxLen at *
  go_enter Tryd.func4, Tryd.ntmps4
  go_wp2
  · go_ret
    exact ⟨⟨_, rfl, fun h => by cases h⟩, rfl⟩
  · go_loop [9, 10] (fun s i => ∃ (t k : Nat), t ≤ 1048576 ∧ k ≤ n ∧ s = .int .i64 t ∧ i = .int .i64 k ∧ Short k ns) (fun _ i => n - (intOf i).toNat)
    case atStart => exact ⟨n, 0, by omega, by omega, by go_num, by go_num, fun j hj => absurd hj (by omega)⟩
    case round =>
      obtain ⟨t, k, ht, hk, rfl, rfl, hsh⟩ := hrel
      by_cases hlt : k < n
      · rcases h with h | ⟨b, off, rfl, hb, hc⟩
        · omega
        have hck := hc k hlt
        have hs := hsz k hlt
        go_wp2
        · go_ret
          exact ⟨⟨_, rfl, fun h => by cases h⟩, rfl⟩
        · go_ret
          exact ⟨⟨_, rfl, fun h => by cases h⟩, rfl⟩
        · go_round
          case rel =>
            refine ⟨t + (ns k).size, k + 1, by omega, by omega, by go_num, by go_num, fun j hj => ?_⟩
            by_cases e : j = k
            · subst e; omega
            · exact hsh j (by omega)
          case measure => simp [intOf]; omega
      · obtain rfl : k = n := by omega
        go_wp2
        all_goals
          go_ret
          exact ⟨⟨_, rfl, fun _ => hsh⟩, rfl⟩

theorem nilS_some (ad : Addr) (n c : Nat) (w : World) : (binOp .eql 22 (.slice (some ad) n c) (.slice none 0 0)).run Tryd.prog w = .ok (.bool false) w :=
  Lib.run_eql_slice_nil (P := Tryd.prog) w 22 9 (some ad) n c 0 0 Tryd.underlying22

theorem nilI_some (ad : Addr) (n c : Nat) (w : World) : (binOp .eql 23 (.slice (some ad) n c) (.slice none 0 0)).run Tryd.prog w = .ok (.bool false) w :=
  Lib.run_eql_slice_nil (P := Tryd.prog) w 23 3 (some ad) n c 0 0 Tryd.underlying23
theorem nilS_none (w : World) : (binOp .eql 22 (.slice none 0 0) (.slice none 0 0)).run Tryd.prog w = .ok (.bool true) w :=
  Lib.run_eql_slice_nil (P := Tryd.prog) w 22 9 none 0 0 0 0 Tryd.underlying22
theorem nilI_none (w : World) : (binOp .eql 23 (.slice none 0 0) (.slice none 0 0)).run Tryd.prog w = .ok (.bool true) w :=
  Lib.run_eql_slice_nil (P := Tryd.prog) w 23 3 none 0 0 0 0 Tryd.underlying23

/-- The row under the hand: the first k cells are written. -/
def Fill (w wr : World) (e : TypeId) (n k : Nat) (f : Nat → Value) : Prop :=
  ∃ xs : List Value, xs.length = n ∧ wr.ownsRow w.heap.size e 1 (.slice (some ⟨w.heap.size, 0, none⟩) n n) n xs ∧ (∀ j, j < k → xs[j]? = some (f j)) ∧ Below w.heap.size w wr ∧ w.heap.size < wr.heap.size

theorem owned_lt {w : World} {base : Nat} {e : TypeId} {size g n cap : Nat} {xs : List Value} (h : w.ownsRow base e size (.slice (some ⟨g, 0, none⟩) n cap) n xs) : g < w.heap.size := by
  rcases h.2 with ⟨h', _⟩ | ⟨g', cap', cur, h', hb, hg, _⟩
  · simp at h'
  · simp only [Value.slice.injEq, Option.some.injEq, Addr.mk.injEq, and_true, true_and] at h'
    obtain ⟨rfl, rfl⟩ := h'
    exact (Array.getElem?_eq_some_iff.1 hg).1

theorem Fill.cell {w wr : World} {e : TypeId} {n k : Nat} {f : Nat → Value} (h : Fill w wr e n k f) (j : Nat) (hj : j < n) : ∃ v, wr.cell? ⟨w.heap.size, j, none⟩ = some v ∧ wr.frozen? ⟨w.heap.size, j, none⟩ = false := by
  obtain ⟨xs, hl, hown, _, _⟩ := h
  exact ⟨xs[j]'(by omega), by rw [hown.cellAt j (by omega), List.getElem?_eq_getElem], hown.frozenAt j⟩

theorem Fill.step {w wr : World} {e : TypeId} {n k : Nat} {f : Nat → Value} (h : Fill w wr e n k f) (hk : k < n) : Fill w (wr.setCell ⟨w.heap.size, k, none⟩ (f k)) e n (k + 1) f := by
  obtain ⟨xs, hl, hown, hx, hb, hs⟩ := h
  refine ⟨xs.set k (f k), by simpa using hl, (hown.stored k (f k)).1, ?_, hb.setCell (by simp) _, by simpa [World.setCell] using hs⟩
  intro j hj
  rw [List.getElem?_set]
  by_cases e : k = j
  · subst e; simp [hl, hk]
  · rw [if_neg e]; exact hx j (by omega)

theorem Fill.row {w wr : World} {e : TypeId} {n : Nat} {f : Nat → Value} (h : Fill w wr e n n f) : Row wr (some ⟨w.heap.size, 0, none⟩) n f ∧ Below w.heap.size w wr := by
  obtain ⟨xs, hl, hown, hx, hb, hs⟩ := h
  exact ⟨.inr ⟨w.heap.size, 0, rfl, hs, fun j hj => by rw [Nat.zero_add, hown.cellAt j (by omega)]; exact hx j hj⟩, hb⟩

set_option maxHeartbeats 400000 in
theorem cloneS_some (ad : Addr) (n c : Nat) (ns : Nat → ByteArray) (w : World) (hn : n ≤ 1048576)
    (h : Row w (some ad) n (fun j => .string (ns j))) :
    Calls Tryd.prog 5 #[.slice (some ad) n c] w fun e w' => e = .returned (.slice (some ⟨w.heap.size, 0, none⟩) n n) ∧ Row w' (some ⟨w.heap.size, 0, none⟩) n (fun j => .string (ns j)) ∧ Below w.heap.size w w' := by
  obtain ⟨i0, hi, hz0, hz1, hz2⟩ := info_parts info9
  have hnil := nilS_some ad n c w
  go_enter Tryd.func5, Tryd.ntmps5
  go_wp2_with (first
    | (at_make; refine wpList_make_full _ rfl _ _ 22 rfl w.heap.size 9 i0 (.string ⟨#[]⟩) 1 Tryd.underlying22 hi hz0 hz1 .i64 .i64 _ _ n rfl rfl rfl rfl (by rw [hz2]; omega) (by unfold maxLen; omega) (by simp) ?_; intro w1 hown hgrow)
    | go_in)
  have hF : Fill w w1 9 n 0 (fun j => .string (ns j)) :=
    ⟨_, by simp [madeCells], hown, fun j hj => absurd hj (by omega), (Below.refl _ _).grown hgrow (Nat.le_refl _) (fun k hk => by cases hk), owned_lt hown⟩
  clear hown hgrow
  go_loopw [4] (fun i wr => ∃ k : Nat, k ≤ n ∧ i = .int .i64 k ∧ Fill w wr 9 n k (fun j => .string (ns j))) (fun i _ => n - (intOf i).toNat)
  case atStart => exact ⟨0, by omega, by go_num, hF⟩
  case round =>
    obtain ⟨k, hk, rfl, hR⟩ := hrel
    clear hF
    by_cases hlt : k < n
    · rcases h with h | ⟨b, off, he, hb, hc⟩
      · omega
      obtain rfl := Option.some.inj he
      obtain ⟨v, hv, hfz⟩ := hR.cell k hlt
      have hck : wr.cell? ⟨b, off + k, none⟩ = some (.string (ns k)) := by
        obtain ⟨xs, _, _, _, hbel, _⟩ := hR
        exact (hbel.cell hb).trans (hc k hlt)
      go_wp2
      go_roundw
      case rel => exact ⟨k + 1, by omega, by go_num, hR.step hlt⟩
      case measure => simp [intOf]; omega
    · obtain rfl : k = n := by omega
      go_wp2
      go_ret
      exact ⟨rfl, hR.row⟩
set_option maxHeartbeats 400000 in
theorem cloneI_some (ad : Addr) (n c : Nat) (ns : Nat → Int) (w : World) (hn : n ≤ 1048576)
    (h : Row w (some ad) n (fun j => .int .i64 (ns j))) :
    Calls Tryd.prog 6 #[.slice (some ad) n c] w fun e w' => e = .returned (.slice (some ⟨w.heap.size, 0, none⟩) n n) ∧ Row w' (some ⟨w.heap.size, 0, none⟩) n (fun j => .int .i64 (ns j)) ∧ Below w.heap.size w w' := by
  obtain ⟨i0, hi, hz0, hz1, hz2⟩ := info_parts info3
  have hnil := nilI_some ad n c w
  go_enter Tryd.func6, Tryd.ntmps6
  go_wp2_with (first
    | (at_make; refine wpList_make_full _ rfl _ _ 23 rfl w.heap.size 3 i0 (.int .i64 0) 1 Tryd.underlying23 hi hz0 hz1 .i64 .i64 _ _ n rfl rfl rfl rfl (by rw [hz2]; omega) (by unfold maxLen; omega) (by simp) ?_; intro w1 hown hgrow)
    | go_in)
  have hF : Fill w w1 3 n 0 (fun j => .int .i64 (ns j)) :=
    ⟨_, by simp [madeCells], hown, fun j hj => absurd hj (by omega), (Below.refl _ _).grown hgrow (Nat.le_refl _) (fun k hk => by cases hk), owned_lt hown⟩
  clear hown hgrow
  go_loopw [4] (fun i wr => ∃ k : Nat, k ≤ n ∧ i = .int .i64 k ∧ Fill w wr 3 n k (fun j => .int .i64 (ns j))) (fun i _ => n - (intOf i).toNat)
  case atStart => exact ⟨0, by omega, by go_num, hF⟩
  case round =>
    obtain ⟨k, hk, rfl, hR⟩ := hrel
    clear hF
    by_cases hlt : k < n
    · rcases h with h | ⟨b, off, he, hb, hc⟩
      · omega
      obtain rfl := Option.some.inj he
      obtain ⟨v, hv, hfz⟩ := hR.cell k hlt
      have hck : wr.cell? ⟨b, off + k, none⟩ = some (.int .i64 (ns k)) := by
        obtain ⟨xs, _, _, _, hbel, _⟩ := hR
        exact (hbel.cell hb).trans (hc k hlt)
      go_wp2
      go_roundw
      case rel => exact ⟨k + 1, by omega, by go_num, hR.step hlt⟩
      case measure => simp [intOf]; omega
    · obtain rfl : k = n := by omega
      go_wp2
      go_ret
      exact ⟨rfl, hR.row⟩
theorem cloneS_none (w : World) : Calls Tryd.prog 5 #[.slice none 0 0] w fun e w' => e = .returned (.slice none 0 0) ∧ w' = w := by
  have hnil := nilS_none w
  go_enter Tryd.func5, Tryd.ntmps5
  go_wp2
  go_ret
  exact ⟨rfl, rfl⟩

theorem cloneI_none (w : World) : Calls Tryd.prog 6 #[.slice none 0 0] w fun e w' => e = .returned (.slice none 0 0) ∧ w' = w := by
  have hnil := nilI_none w
  go_enter Tryd.func6, Tryd.ntmps6
  go_wp2
  go_ret
  exact ⟨rfl, rfl⟩

/-- The clones at every slice: the copy holds what the slice holds; nothing old has turned. -/
theorem cloneS_any (a : Option Addr) (n c : Nat) (ns : Nat → ByteArray) (w : World) (hn : n ≤ 1048576) (hnil : a = none → n = 0 ∧ c = 0)
    (h : Row w a n (fun j => .string (ns j))) :
    Calls Tryd.prog 5 #[.slice a n c] w fun e w' => ∃ a', e = .returned (.slice a' n n) ∧ Row w' a' n (fun j => .string (ns j)) ∧ Below w.heap.size w w' := by
  cases a with
  | none =>
    obtain ⟨rfl, rfl⟩ := hnil rfl
    refine (cloneS_none w).mono ?_
    rintro e w' ⟨rfl, rfl⟩
    exact ⟨_, rfl, .inl rfl, Below.refl _ _⟩
  | some ad =>
    refine (cloneS_some ad n c ns w hn h).mono ?_
    rintro e w' ⟨rfl, h1, h2⟩
    exact ⟨_, rfl, h1, h2⟩

theorem cloneI_any (a : Option Addr) (n c : Nat) (ns : Nat → Int) (w : World) (hn : n ≤ 1048576) (hnil : a = none → n = 0 ∧ c = 0)
    (h : Row w a n (fun j => .int .i64 (ns j))) :
    Calls Tryd.prog 6 #[.slice a n c] w fun e w' => ∃ a', e = .returned (.slice a' n n) ∧ Row w' a' n (fun j => .int .i64 (ns j)) ∧ Below w.heap.size w w' := by
  cases a with
  | none =>
    obtain ⟨rfl, rfl⟩ := hnil rfl
    refine (cloneI_none w).mono ?_
    rintro e w' ⟨rfl, rfl⟩
    exact ⟨_, rfl, .inl rfl, Below.refl _ _⟩
  | some ad =>
    refine (cloneI_some ad n c ns w hn h).mono ?_
    rintro e w' ⟨rfl, h1, h2⟩
    exact ⟨_, rfl, h1, h2⟩

theorem Row.below {w w' : World} {a : Option Addr} {n : Nat} {f : Nat → Value} (h : Row w a n f) (hb : Below w.heap.size w w') : Row w' a n f := by
  rcases h with h | ⟨b, off, rfl, hlt, hc⟩
  · exact .inl h
  · exact .inr ⟨b, off, rfl, Nat.lt_of_lt_of_le hlt hb.size, fun j hj => (hb.cell hlt).trans (hc j hj)⟩

end Go.Proofs.Qxb6003658aDoor
