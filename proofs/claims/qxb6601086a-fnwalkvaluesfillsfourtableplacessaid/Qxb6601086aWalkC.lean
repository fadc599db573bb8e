/-
  THE WALK OF appendText.
-/
import Derived.Test.Qxb6601086aWalkB
import Derived.Lib.UnsafeStr
namespace Go.Proofs.Qxb6601086a
open Go.RowKit

theorem info5 : (Try.prog.info? 5).map (fun i => (i.zero, i.size, i.bytes)) = some (some (.int .u8 0), 1, 1) := by kernel_rfl

/-- The slice value v owns the bytes l, in blocks from B on. -/
def Own (B : Nat) (w : World) (v : Value) (l : List UInt8) : Prop := w.ownsRow B 5 1 v l.length (Lib.byteCells l)

theorem Own.block {B : Nat} {w : World} {v : Value} {l : List UInt8} (h : Own B w v l) : ∀ k, v.ownBlock = some k → B ≤ k := by
  intro k hk
  rcases h.2 with ⟨rfl, _⟩ | ⟨g, cap, cur, rfl, hb, hg, _⟩
  · simp [Value.ownBlock] at hk
  · simp [Value.ownBlock] at hk
    subst hk
    exact hb

theorem Own.alloc {B : Nat} {w : World} {v : Value} {l : List UInt8} (h : Own B w v l) (o : Obj) : Own B (w.alloc o) v l := World.ownsRow.alloc h o

theorem oneCell_byte (l : List UInt8) : ∀ u ∈ Lib.byteCells l, u.oneCell' = true := by
  intro u hu
  simp only [Lib.byteCells, List.mem_map] at hu
  obtain ⟨b, _, rfl⟩ := hu
  rfl

/-- 'append' at bytes, the source at an address. -/
theorem wpList_app {w : World} {ops : Array Oper} {rest : List Oper} {o : Oper} {a : Act} {Q : Exit → Act → World → Prop} (hgd : o.guard = none) (s x : Operand)
    (ho : o.op = .call { callee := .builtin .append, args := #[s, x], argTypes := #[24, 24] }) (B : Nat) (v : Value) (l : List UInt8) (hs : a.eval s = v) (hown : Own B w v l)
    (ad : Addr) (m c : Nat) (news : List UInt8) (hx : a.eval x = .slice (some ad) m c) (hm : news.length = m) (hnews : ∀ j (hj : j < news.length), w.cell? (ad.add j) = some (.int .u8 (news[j].toNat : Int)))
    (hlen : l.length + news.length ≤ 1099511627776) (hB : B ≤ w.heap.size)
    (h : ∀ v' w', Own B w' v' (l ++ news) → Below B w w' → wpList Try.prog ops Q rest (a.put o.dst v') w') : wpList Try.prog ops Q (o :: rest) a w := by
  obtain ⟨i0, hi, hz0, hz1, hz2⟩ := info_parts info5
  subst hm
  refine wpList_append_own _ hgd s x 24 ho B 5 i0 (.int .u8 0) 1 1 Try.underlying24 hi hz0 hz1 hz2 rfl (by decide) v l.length (Lib.byteCells l) hs hown ad news.length c (Lib.byteCells news) hx (by simp [Lib.byteCells]) ?_ (oneCell_byte _) (by unfold maxLen; omega) (by omega) hB ?_
  · intro j u hu
    have hj : j < news.length := by
      have := (List.getElem?_eq_some_iff.1 hu).1
      simpa [Lib.byteCells] using this
    rw [hnews j hj]
    simp only [Lib.byteCells, List.getElem?_map, List.getElem?_eq_getElem hj, Option.map_some, Option.some.injEq] at hu
    rw [hu]
  · intro v' w' h1 h2 _
    refine h v' w' ?_ ((Below.refl _ _).grown h2 hB hown.block)
    unfold Own
    rw [Lib.byteCells_append, List.length_append]
    exact h1

theorem fresh_block (w : World) (vs : Array Value) (t : TypeId) : (w.alloc (.cells vs t)).heap[w.heap.size]? = some (.cells vs t (0, 0)) := by
  show (w.heap.push _)[_]? = _
  simp

theorem one_cells (w : World) (vs : Array Value) (news : List UInt8) (h : vs.toList = Lib.byteCells news) : ∀ j (hj : j < news.length), (w.alloc (.cells vs 5)).cell? ((⟨w.heap.size, 0, none⟩ : Addr).add j) = some (.int .u8 (news[j].toNat : Int)) := by
  intro j hj
  have hadd : (⟨w.heap.size, 0, none⟩ : Addr).add j = ⟨w.heap.size, 0 + j, none⟩ := by unfold Addr.add; split <;> simp_all
  rw [hadd]
  show (match (w.alloc (.cells vs 5)).heap[w.heap.size]? with | some (.cells c _ _) => c[0 + j]? | _ => none) = _
  rw [fresh_block]
  show vs[0 + j]? = _
  rw [Nat.zero_add, ← Array.getElem?_toList, h]
  simp [Lib.byteCells, hj]

theorem take_snoc (s : ByteArray) (k : Nat) (h : k < s.size) : s.data.toList.take (k + 1) = s.data.toList.take k ++ [s[k]] := by
  rw [List.take_succ_eq_append_getElem (by simpa using h)]; rfl

set_option maxHeartbeats 400000 in
theorem appendText_any (B : Nat) (v : Value) (l : List UInt8) (s : ByteArray) (w : World) (hown : Own B w v l) (hB : B ≤ w.heap.size) (hl : l.length ≤ 1073741824) (hs : s.size ≤ 1048576) :
    Calls Try.prog 9 #[v, .string s] w fun e w' => ∃ v', e = .returned v' ∧ Own B w' v' (l ++ s.data.toList) ∧ Below B w w' := by
  go_enter Try.func9, Try.ntmps9
  go_wp2
  go_loopw [0, 5] (fun u x wr => ∃ k : Nat, k ≤ s.size ∧ x = .int .i64 k ∧ Own B wr u (l ++ s.data.toList.take k) ∧ Below B w wr) (fun _ x _ => s.size - (intOf x).toNat)
  case atStart => exact ⟨0, by omega, by go_num, by simpa using hown, Below.refl _ _⟩
  case round =>
    obtain ⟨k, hk, rfl, ho, hb⟩ := hrel
    clear hown
    have hbs := hb.size
    have htl : (s.data.toList.take k).length ≤ k := List.length_take_le _ _
    by_cases hlt : k < s.size
    · have HT : Hid (s.data.toList.take (k + 1) = s.data.toList.take k ++ [s[k]]) := take_snoc s k hlt
      go_wp2_with (at_builtin; refine wpList_app rfl (.tmp 12) (.tmp 16) rfl B _ _ rfl (ho.alloc _) _ _ _ [s[k]] rfl rfl (one_cells wr #[.int .u8 ((s[k]).toNat : Int)] [s[k]] rfl) (by simp; omega) (by simp; omega) ?_; intro v1 w1 ho1 hb1)
      go_roundw
      case rel => exact ⟨k + 1, by omega, by go_num, by rw [HT.out, ← List.append_assoc]; exact ho1, (hb.alloc (Nat.le_trans hB hbs) _).trans hb1⟩
      case measure => simp [intOf]; omega
    · have HT : Hid (s.data.toList.take k = s.data.toList) := List.take_of_length_le (show s.data.toList.length ≤ k by have : s.data.toList.length = s.size := rfl; omega)
      go_wp2
      go_ret
      exact ⟨_, rfl, by rw [← HT.out]; exact ho, hb⟩
end Go.Proofs.Qxb6601086a
