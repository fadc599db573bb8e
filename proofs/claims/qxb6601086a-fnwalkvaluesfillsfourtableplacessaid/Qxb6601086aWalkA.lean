/-
  walkValues: the day between five constants. The constants are taken off the loaded program itself.
-/
import Derived.Test.Qxb6601086aProg
import Derived.WalkKit
namespace Go.Proofs.Qxb6601086a
open Go.RowKit

def strOf (o : Operand) : ByteArray := match o with | .const (.string s) => s | _ => .empty
/-- The constant of the i-th operation of a function's one statement. -/
def part (f : Func) (i : Nat) (left : Bool) : ByteArray :=
  match f.body with
  | some (.seq _ (.seq (.region _ ops _) _)) =>
    match ops[i]? with
    | some o => match o.op with
      | .binOp _ _ a b _ => strOf (if left then a else b)
      | _ => .empty
    | _ => .empty
  | _ => .empty

/-- Five constants. -/
structure Cs where
  c0 : ByteArray
  c1 : ByteArray
  c2 : ByteArray
  c3 : ByteArray
  c4 : ByteArray

/-- The statement: the day between them. -/
def wv (k : Cs) (day : ByteArray) : ByteArray := k.c0 ++ day ++ k.c1 ++ day ++ k.c2 ++ day ++ k.c3 ++ day ++ k.c4

/-- The five of walkValues. -/
def IsK (k : Cs) : Prop := k = ⟨part Try.f13 1 true, part Try.f13 2 false, part Try.f13 5 false, part Try.f13 8 false, part Try.f13 11 false⟩

theorem sizes {k : Cs} (h : IsK k) : k.c0.size = 82 ∧ k.c1.size = 151 ∧ k.c2.size = 239 ∧ k.c3.size = 192 ∧ k.c4.size = 174 := by
  unfold IsK at h
  subst h
  exact ⟨by kernel_rfl, by kernel_rfl, by kernel_rfl, by kernel_rfl, by kernel_rfl⟩

theorem wv_size {k : Cs} (h : IsK k) (day : ByteArray) : (wv k day).size = 838 + 4 * day.size := by
  obtain ⟨h0, h1, h2, h3, h4⟩ := sizes h
  simp only [wv, ByteArray.size_append, h0, h1, h2, h3, h4]
  omega

set_option maxRecDepth 100000 in
theorem walkValues_any (k : Cs) (hk : IsK k) (day : ByteArray) (hd : day.size ≤ 65536) (w : World) : Calls Try.prog 13 #[.string day] w fun e w' => e = .returned (.string (wv k day)) ∧ w' = w := by
  have HK : Hid (IsK k) := hk
  clear hk
  obtain ⟨s, hs⟩ : ∃ s, s = wv k day := ⟨_, rfl⟩
  rw [← hs]
  have HS : Hid (s = wv k day) := hs
  clear hs
  go_enter Try.func13, Try.ntmps13
  go_wp2
  go_ret
  have hs := HS.out
  have hk := HK.out
  unfold IsK at hk
  subst hk
  rw [hs]
  exact ⟨by kernel_rfl, rfl⟩

theorem zzWalk_any (k : Cs) (hk : IsK k) (day : ByteArray) (hd : day.size ≤ 65536) (w : World) : Calls Try.prog 7 #[.string day] w fun e w' => e = .returned (.string (wv k day)) ∧ w' = w := by
  have HW := walkValues_any k hk day hd w
  go_enter Try.func7, Try.ntmps7
  go_wp2_with (go_at_call 13; refine HW.mono ?_; rintro e w' ⟨rfl, rfl⟩)
  go_ret
  exact ⟨rfl, rfl⟩

/-- A bool. -/
def RetB (e : Ending) : Prop := ∃ b, e = .returned (.bool b)
end Go.Proofs.Qxb6601086a
