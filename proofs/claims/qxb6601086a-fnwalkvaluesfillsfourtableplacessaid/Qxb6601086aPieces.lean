/-
  THE PLAIN LAW: the empty day's statement cut at its four places.
-/
import Derived.Test.Qxb6601086aWalkC
namespace Go.Proofs.Qxb6601086a
open Go.RowKit

def pat : List UInt8 := [70, 82, 79, 77, 32, 32, 109]
def lead : List UInt8 := [70, 82, 79, 77, 32]
def trail : List UInt8 := [32, 109]

/-- The text cut at its places, from the left: what stands before, between and behind the days. -/
def pcs : Nat → List UInt8 → List (List UInt8)
  | 0, _ => [[]]
  | _ + 1, [] => [[]]
  | f + 1, b :: t =>
    if ((b :: t).take 7 == pat) then lead :: (match pcs f ((b :: t).drop 7) with | [] => [trail] | x :: r => (trail ++ x) :: r)
    else match pcs f t with | [] => [[b]] | x :: r => (b :: x) :: r

/-- The day between the pieces. -/
def out (day : List UInt8) : List (List UInt8) → List UInt8
  | [] => []
  | x :: r => x ++ (r.map (day ++ ·)).flatten

theorem pcs_ne (f : Nat) (l : List UInt8) : ∃ x r, pcs f l = x :: r := by
  cases f with
  | zero => exact ⟨_, _, rfl⟩
  | succ f =>
    cases l with
    | nil => exact ⟨_, _, rfl⟩
    | cons b t =>
      simp only [pcs]
      split
      · exact ⟨_, _, rfl⟩
      · split <;> exact ⟨_, _, rfl⟩

theorem pcs_nil (f : Nat) : pcs f [] = [[]] := by cases f <;> rfl

theorem pcs_hole (day : List UInt8) (f : Nat) (l : List UInt8) (h : (l.take 7 == pat) = true) : out day (pcs (f + 1) l) = lead ++ day ++ trail ++ out day (pcs f (l.drop 7)) ∧ (pcs (f + 1) l).length = (pcs f (l.drop 7)).length + 1 := by
  cases l with
  | nil => simp [pat] at h
  | cons b t =>
    obtain ⟨x, r, hx⟩ := pcs_ne f ((b :: t).drop 7)
    simp only [pcs]
    rw [if_pos h, hx]
    simp [out]

theorem pcs_other (day : List UInt8) (f : Nat) (b : UInt8) (t : List UInt8) (h : ((b :: t).take 7 == pat) = false) : out day (pcs (f + 1) (b :: t)) = b :: out day (pcs f t) ∧ (pcs (f + 1) (b :: t)).length = (pcs f t).length := by
  obtain ⟨x, r, hx⟩ := pcs_ne f t
  simp only [pcs]
  rw [if_neg (by rw [h]; simp), hx]
  simp [out]

theorem pcs_whole {k : Cs} (hk : IsK k) : pcs 838 (wv k ⟨#[]⟩).data.toList = [k.c0.data.toList, k.c1.data.toList, k.c2.data.toList, k.c3.data.toList, k.c4.data.toList] := by
  unfold IsK at hk
  subst hk
  kernel_rfl

theorem out_whole {k : Cs} (hk : IsK k) (day : ByteArray) : out day.data.toList (pcs 838 (wv k ⟨#[]⟩).data.toList) = (wv k day).data.toList ∧ (pcs 838 (wv k ⟨#[]⟩).data.toList).length = 5 := by
  rw [pcs_whole hk]
  refine ⟨?_, rfl⟩
  simp [out, wv, ByteArray.data_append]
end Go.Proofs.Qxb6601086a
