/-
  THE WALKS OF AppendUint, AppendInt, LastIndexByte.
-/
import Derived.Test.Qxb6600948aDoorWalkA
import Derived.Lib.UnsafeStr
import Derived.Lib.ItoaLen
import Derived.Laws.AppendOwnNone
namespace Go.Proofs.Qxb6600948aDoor
open Go.RowKit

/-- The slice value v owns the bytes l, in blocks from B on. -/
def Own (B : Nat) (w : World) (v : Value) (l : List UInt8) : Prop := w.ownsRow B 5 1 v l.length (Lib.byteCells l)

theorem Own.block {B : Nat} {w : World} {v : Value} {l : List UInt8} (h : Own B w v l) : ∀ k, v.ownBlock = some k → B ≤ k := by
  intro k hk
  rcases h.2 with ⟨rfl, _⟩ | ⟨g, cap, cur, rfl, hb, hg, _⟩
  · simp [Value.ownBlock] at hk
  · simp [Value.ownBlock] at hk
    subst hk
    exact hb

theorem Own.alloc {B : Nat} {w : World} {v : Value} {l : List UInt8} (h : Own B w v l) (o : Obj) : Own B (w.alloc o) v l := World.ownsRow.alloc h o

theorem oneCell_byte (l : List UInt8) : ∀ u ∈ Lib.byteCells l, u.oneCell' = true := by
  intro u hu
  simp only [Lib.byteCells, List.mem_map] at hu
  obtain ⟨b, _, rfl⟩ := hu
  rfl

/-- 'append' at bytes, the source at an address. -/
theorem wpList_app {w : World} {ops : Array Oper} {rest : List Oper} {o : Oper} {a : Act} {Q : Exit → Act → World → Prop} (hgd : o.guard = none) (s x : Operand)
    (ho : o.op = .call { callee := .builtin .append, args := #[s, x], argTypes := #[22, 22] }) (B : Nat) (v : Value) (l : List UInt8) (hs : a.eval s = v) (hown : Own B w v l)
    (ad : Addr) (m c : Nat) (news : List UInt8) (hx : a.eval x = .slice (some ad) m c) (hm : news.length = m) (hnews : ∀ j (hj : j < news.length), w.cell? (ad.add j) = some (.int .u8 (news[j].toNat : Int)))
    (hlen : l.length + news.length ≤ 1099511627776) (hB : B ≤ w.heap.size)
    (h : ∀ v' w', Own B w' v' (l ++ news) → Below B w w' → wpList Tryd.prog ops Q rest (a.put o.dst v') w') : wpList Tryd.prog ops Q (o :: rest) a w := by
  obtain ⟨i0, hi, hz0, hz1, hz2⟩ := info_parts info5
  subst hm
  refine wpList_append_own _ hgd s x 22 ho B 5 i0 (.int .u8 0) 1 1 Tryd.underlying22 hi hz0 hz1 hz2 rfl (by decide) v l.length (Lib.byteCells l) hs hown ad news.length c (Lib.byteCells news) hx (by simp [Lib.byteCells]) ?_ (oneCell_byte _) (by unfold maxLen; omega) (by omega) hB ?_
  · intro j u hu
    have hj : j < news.length := by
      have := (List.getElem?_eq_some_iff.1 hu).1
      simpa [Lib.byteCells] using this
    rw [hnews j hj]
    simp only [Lib.byteCells, List.getElem?_map, List.getElem?_eq_getElem hj, Option.map_some, Option.some.injEq] at hu
    rw [hu]
  · intro v' w' h1 h2 _
    refine h v' w' ?_ ((Below.refl _ _).grown h2 hB hown.block)
    unfold Own
    rw [Lib.byteCells_append, List.length_append]
    exact h1

/-- Of u's digits the last, tl, are written; m is what is left of u. -/
def DigInv (u m : Nat) (tl : List UInt8) : Prop := m ≤ u ∧ ((0 < m ∧ Lib.decDigits u = Lib.decDigits m ++ tl) ∨ (m = 0 ∧ Lib.decDigits u = tl))

theorem DigInv.step {u m : Nat} {tl : List UInt8} (h : DigInv u m tl) (hm : 0 < m) : DigInv u (m / 10) (UInt8.ofNat (48 + m % 10) :: tl) := by
  obtain ⟨hle, h | h⟩ := h
  · refine ⟨by omega, ?_⟩
    by_cases h10 : m < 10
    · right
      have e := h.2
      rw [Lib.decDigits.eq_def m, dif_pos h10] at e
      exact ⟨by omega, by rw [e, Nat.mod_eq_of_lt h10]; rfl⟩
    · left
      have e := h.2
      rw [Lib.decDigits.eq_def m, dif_neg h10] at e
      exact ⟨by omega, by rw [e]; simp⟩
  · omega

theorem DigInv.len {u m : Nat} {tl : List UInt8} (h : DigInv u m tl) (hu : u < 18446744073709551616) : tl.length ≤ 20 := by
  have := Lib.nDigits_le20 u hu
  rw [← Lib.decDigits_length] at this
  obtain ⟨_, h | h⟩ := h
  · rw [h.2] at this; simp at this; omega
  · rw [← h.2]; exact this

/-- The last cells of the buffer are the digits written. -/
def Tail (cur : Array Value) (t : Nat) (tl : List UInt8) : Prop := ∀ j (h : j < tl.length), cur[t + j]? = some (.int .u8 (tl[j].toNat : Int))

theorem Tail.step {cur : Array Value} {t : Nat} {tl : List UInt8} (h : Tail cur t tl) (c : UInt8) (ht : 1 ≤ t) (htc : t ≤ cur.size) : Tail (cur.setIfInBounds (t - 1) (.int .u8 (c.toNat : Int))) (t - 1) (c :: tl) := by
  intro j hj
  rw [Array.getElem?_setIfInBounds]
  cases j with
  | zero => simp; omega
  | succ j =>
    rw [if_neg (by omega)]
    have := h j (by simpa using hj)
    rw [show t - 1 + (j + 1) = t + j by omega, this]
    simp

theorem digit_byte (m : Nat) : ((UInt8.ofNat (48 + m % 10)).toNat : Int) = 48 + (m : Int) % 10 := by
  simp [UInt8.toNat_ofNat]; omega

theorem fresh_block (w : World) (vs : Array Value) (t : TypeId) : (w.alloc (.cells vs t)).heap[w.heap.size]? = some (.cells vs t (0, 0)) := by
  show (w.heap.push _)[_]? = _
  simp

theorem tail_cells (w : World) (cur : Array Value) (T : TypeId) (t : Nat) (tl : List UInt8) (h : Tail cur t tl) : ∀ j (hj : j < tl.length), (w.alloc (.cells cur T)).cell? ((⟨w.heap.size, t, none⟩ : Addr).add j) = some (.int .u8 (tl[j].toNat : Int)) := by
  intro j hj
  have := h j hj
  have hadd : (⟨w.heap.size, t, none⟩ : Addr).add j = ⟨w.heap.size, t + j, none⟩ := by unfold Addr.add; split <;> simp_all
  rw [hadd]
  show (match (w.alloc (.cells cur T)).heap[w.heap.size]? with | some (.cells c _ _) => c[t + j]? | _ => none) = _
  rw [fresh_block]
  exact this

theorem alen35 : Tryd.prog.arrayLen 35 = 20 := by kernel_rfl
theorem elem35 : Tryd.prog.elem 35 = 5 := by kernel_rfl
theorem slice_tail (W : World) (b t : Nat) (ht : t < 20) :
    (Instr.sliceAt 35 (.pointer (some ⟨b, 0, none⟩)) (some (.int .i64 (t : Int))) none none).run Tryd.prog W = .ok (.slice (some ⟨b, t, none⟩) (20 - t) (20 - t)) W := by
  have hu : Tryd.prog.underlying 35 = some (.array (Tryd.prog.arrayLen 35) (Tryd.prog.elem 35)) := by rw [alen35, elem35]; exact Tryd.underlying35
  rw [run_sliceAt_array_l W 35 ⟨b, 0, none⟩ hu .i64 t (by omega) (by rw [alen35]; omega), elem35, alen35]
  have hs := Tryd.sizeOf5 W
  have hadd : (⟨b, 0, none⟩ : Addr).add t = ⟨b, t, none⟩ := by unfold Addr.add; split <;> simp_all
  rw [hs]
  simp only [Result.andThen, slicedAt, Int.toNat_natCast, Nat.mul_one]
  rw [if_neg (by omega), hadd]

set_option maxHeartbeats 400000 in
theorem appendUint_pos (B : Nat) (v : Value) (l : List UInt8) (u : Nat) (h0 : 0 < u) (hu : u < 18446744073709551616) (w : World) (hown : Own B w v l) (hB : B ≤ w.heap.size) (hl : l.length ≤ 1073741824) :
    Calls Tryd.prog 11 #[v, .int .u64 u] w fun e w' => ∃ v', e = .returned v' ∧ Own B w' v' (l ++ Lib.decDigits u) ∧ Below B w w' := by
  have hz : ((u : Int) == 0) = false := by simp; omega
  go_enter Tryd.func11, Tryd.ntmps11
  go_wp2
  go_loopw [1, 6] (fun x i wr => ∃ (m t : Nat) (tl : List UInt8) (cur : Array Value), x = .int .u64 m ∧ i = .int .i64 t ∧ cur.size = 20 ∧ wr = w.alloc (.cells cur 35) ∧ t + tl.length = 20 ∧ DigInv u m tl ∧ Tail cur t tl) (fun x _ _ => (intOf x).toNat)
  case atStart => exact ⟨u, 20, [], _, rfl, rfl, by rfl, rfl, rfl, ⟨by omega, .inl ⟨h0, by simp⟩⟩, fun j hj => by simp at hj⟩
  case round =>
    obtain ⟨m, t, tl, cur, rfl, rfl, hsz, rfl, htl, hinv, htail⟩ := hrel
    have hle := hinv.1
    by_cases hm : 0 < m
    · have hst := hinv.step hm
      have hlen := hst.len hu
      simp only [List.length_cons] at hlen
      have ht : 1 ≤ t ∧ t ≤ 20 := by omega
      have hlt : t - 1 < cur.size := by omega
      have hts := htail.step (UInt8.ofNat (48 + m % 10)) ht.1 (by omega)
      rw [digit_byte] at hts
      have HTL : Hid (t + tl.length = 20) := htl
      have HS : Hid (cur.size = 20) := hsz
      clear htl hsz hinv hown
      go_wp2
      go_roundw
      case rel => exact ⟨m / 10, t - 1, UInt8.ofNat (48 + m % 10) :: tl, _, by go_num, by go_num, by simpa using HS.out, rfl, by have := HTL.out; simp; omega, hst, hts⟩
      case measure => simp [intOf]; omega
    · have hdone : Lib.decDigits u = tl := by
        obtain ⟨_, h | h⟩ := hinv
        · omega
        · exact h.2
      have hpos : 1 ≤ tl.length := by rw [← hdone, Lib.decDigits_length]; exact Lib.nDigits_pos u
      have hsl := slice_tail (w.alloc (.cells cur 35)) w.heap.size t (by omega)
      rw [show 20 - t = tl.length by omega] at hsl
      have HD : Hid (Lib.decDigits u = tl) := hdone
      have hle20 := hinv.len hu
      have HC := tail_cells w cur 35 t tl htail
      clear htl hsz hdone hinv htail
      go_wp2_with (at_builtin; refine wpList_app rfl _ _ rfl B v l rfl (hown.alloc _) _ _ _ tl rfl rfl HC (by omega) (by simp; omega) ?_; intro v' w1 hown' hb')
      go_ret
      exact ⟨v', rfl, by rw [HD.out]; exact hown', ((Below.refl _ _).alloc hB _).trans hb'⟩

theorem one_cells (w : World) (vs : Array Value) (news : List UInt8) (h : vs.toList = Lib.byteCells news) : ∀ j (hj : j < news.length), (w.alloc (.cells vs 5)).cell? ((⟨w.heap.size, 0, none⟩ : Addr).add j) = some (.int .u8 (news[j].toNat : Int)) := by
  intro j hj
  have hadd : (⟨w.heap.size, 0, none⟩ : Addr).add j = ⟨w.heap.size, 0 + j, none⟩ := by unfold Addr.add; split <;> simp_all
  rw [hadd]
  show (match (w.alloc (.cells vs 5)).heap[w.heap.size]? with | some (.cells c _ _) => c[0 + j]? | _ => none) = _
  rw [fresh_block]
  show vs[0 + j]? = _
  rw [Nat.zero_add, ← Array.getElem?_toList, h]
  simp [Lib.byteCells, hj]

set_option maxHeartbeats 400000 in
theorem appendUint_zero (B : Nat) (v : Value) (l : List UInt8) (w : World) (hown : Own B w v l) (hB : B ≤ w.heap.size) (hl : l.length ≤ 1073741824) :
    Calls Tryd.prog 11 #[v, .int .u64 0] w fun e w' => ∃ v', e = .returned v' ∧ Own B w' v' (l ++ Lib.decDigits 0) ∧ Below B w w' := by
  have HD : Hid (Lib.decDigits 0 = [48]) := Lib.decDigits_one (by omega)
  go_enter Tryd.func11, Tryd.ntmps11
  go_wp2_with (at_builtin; refine wpList_app rfl _ _ rfl B v l rfl (hown.alloc _) _ _ _ [48] rfl rfl (one_cells w #[.int .u8 48] [48] rfl) (by simp; omega) (by simp; omega) ?_; intro v' w1 hown' hb')
  go_ret
  exact ⟨v', rfl, by rw [HD.out]; exact hown', ((Below.refl _ _).alloc hB _).trans hb'⟩

theorem appendUint_any (B : Nat) (v : Value) (l : List UInt8) (u : Nat) (hu : u < 18446744073709551616) (w : World) (hown : Own B w v l) (hB : B ≤ w.heap.size) (hl : l.length ≤ 1073741824) :
    Calls Tryd.prog 11 #[v, .int .u64 u] w fun e w' => ∃ v', e = .returned v' ∧ Own B w' v' (l ++ Lib.decDigits u) ∧ Below B w w' := by
  rcases Nat.eq_zero_or_pos u with rfl | h0
  · exact appendUint_zero B v l w hown hB hl
  · exact appendUint_pos B v l u h0 hu w hown hB hl

theorem not_neg (u : Nat) (h1 : 1 ≤ u) (h2 : u ≤ 9223372036854775808) : bits .xor .i64 (-1) (-(u : Int)) = ((u - 1 : Nat) : Int) := by
  show IntKind.i64.wrap ((BitVec.ofInt 64 (-1) ^^^ BitVec.ofInt 64 (-(u : Int))).toNat : Int) = _
  have h3 : BitVec.ofInt 64 (-1) = BitVec.allOnes 64 := by decide
  have h4 : (BitVec.ofInt 64 (-(u : Int))).toNat = 18446744073709551616 - u := by
    rw [BitVec.toNat_ofInt]
    have : (-(u : Int)) % ((2 ^ 64 : Nat) : Int) = 18446744073709551616 - (u : Int) := by omega
    rw [this]; omega
  rw [h3, BitVec.allOnes_xor, BitVec.toNat_not, h4, IntKind.wrap_i64]
  omega

theorem u64_wrap (x : Int) (h0 : 0 ≤ x) (h1 : x < 18446744073709551616) : IntKind.u64.wrap x = x := by
  simp [IntKind.wrap, IntKind.bits, IntKind.signed]
  omega

set_option maxHeartbeats 400000 in
theorem appendInt_any (B : Nat) (v : Value) (l : List UInt8) (x : Int) (h0 : -9223372036854775808 ≤ x) (h1 : x ≤ 9223372036854775807) (w : World) (hown : Own B w v l) (hB : B ≤ w.heap.size) (hl : l.length ≤ 1000000000) :
    Calls Tryd.prog 10 #[v, .int .i64 x] w fun e w' => ∃ v', e = .returned v' ∧ Own B w' v' (l ++ Lib.itoa x) ∧ Below B w w' := by
  by_cases hx : x < 0
  · obtain ⟨u, rfl⟩ : ∃ u : Nat, x = -(u : Int) := ⟨x.natAbs, by omega⟩
    have HI : Hid (Lib.itoa (-(u : Int)) = 45 :: Lib.decDigits u) := Lib.itoa_neg u (by omega)
    obtain ⟨q, hq⟩ : ∃ q : Nat, q = u - 1 := ⟨_, rfl⟩
    have hnot : bits .xor .i64 (-1) (-(u : Int)) = (q : Int) := by rw [hq]; exact not_neg u (by omega) (by omega)
    have hw0 : IntKind.u64.wrap (q : Int) = (q : Int) := u64_wrap _ (by omega) (by omega)
    have hw1 : IntKind.u64.wrap ((q : Int) + 1) = (u : Int) := by rw [u64_wrap _ (by omega) (by omega)]; omega
    clear hq
    go_enter Tryd.func10, Tryd.ntmps10
    go_wp2_with (at_builtin; refine wpList_app rfl _ _ rfl B v l rfl (hown.alloc _) _ _ _ [45] rfl rfl (one_cells w #[.int .u8 45] [45] rfl) (by simp; omega) (by simp; omega) ?_; intro v' w1 hown' hb')
    have hs1 : B ≤ w1.heap.size := by have := hb'.size; simp at this; omega
    refine (appendUint_any B v' (l ++ [45]) u (by omega) w1 hown' hs1 (by simp; omega)).mono ?_
    rintro e w2 ⟨v2, rfl, hown2, hb2⟩
    go_wp2
    go_ret
    exact ⟨v2, rfl, by rw [HI.out]; simpa using hown2, (((Below.refl _ _).alloc hB _).trans hb').trans hb2⟩
  · obtain ⟨u, rfl⟩ : ∃ u : Nat, x = (u : Int) := ⟨x.toNat, by omega⟩
    have HI : Hid (Lib.itoa (u : Int) = Lib.decDigits u) := Lib.itoa_nonneg u
    go_enter Tryd.func10, Tryd.ntmps10
    go_wp2_with (go_at_call 11; refine (appendUint_any B v l u (by omega) w hown hB (by omega)).mono ?_; rintro e w1 ⟨v', rfl, hown', hb'⟩)
    go_ret
    exact ⟨v', rfl, by rw [HI.out]; exact hown', hb'⟩

set_option maxHeartbeats 400000 in
theorem last_inner (b off n c p : Nat) (f : Nat → UInt8) (w : World) (hn : n ≤ 1073741824) (hc : ∀ j, j < n → w.cell? ⟨b, off + j, none⟩ = some (.int .u8 ((f j).toNat : Int))) (hp : p < n) (h41 : f p = 41) (hno : ∀ j, p < j → j < n → f j ≠ 41) :
    Calls Tryd.prog 22 #[.slice (some ⟨b, off, none⟩) n c, .int .u8 41] w fun e w' => e = .returned (.int .i64 p) ∧ w' = w := by
  have H41 : Hid (f p = 41) := h41
  have HN : Hid (∀ j, p < j → j < n → f j ≠ 41) := hno
  clear h41 hno
  go_enter Tryd.func22, Tryd.ntmps22
  go_wp2
  go_loop [5] (fun i => ∃ k : Nat, p ≤ k ∧ k < n ∧ i = .int .i64 k) (fun i => (intOf i).toNat)
  case atStart => exact ⟨n - 1, by omega, by omega, by go_num⟩
  case round =>
    obtain ⟨k, hk, hkn, rfl⟩ := hrel
    have hck := hc k hkn
    by_cases e : p = k
    · subst e
      have ht : (((f p).toNat : Int) == 41) = true := by rw [H41.out]; rfl
      go_wp2
      go_ret
      exact ⟨rfl, rfl⟩
    · have ht : (((f k).toNat : Int) == 41) = false := by
        simp only [beq_eq_false_iff_ne, ne_eq]
        intro e'
        exact HN.out k (by omega) hkn (UInt8.toNat_inj.1 (show (f k).toNat = 41 by omega))
      have hlt : p < k := by omega
      clear e
      go_wp2
      go_round
      case rel => exact ⟨k - 1, by omega, by omega, by go_num⟩
      case measure => simp [intOf]; omega

theorem last_any (b off n c p : Nat) (f : Nat → UInt8) (w : World) (hn : n ≤ 1073741824) (hc : ∀ j, j < n → w.cell? ⟨b, off + j, none⟩ = some (.int .u8 ((f j).toNat : Int))) (hp : p < n) (h41 : f p = 41) (hno : ∀ j, p < j → j < n → f j ≠ 41) :
    Calls Tryd.prog 18 #[.slice (some ⟨b, off, none⟩) n c, .int .u8 41] w fun e w' => e = .returned (.int .i64 p) ∧ w' = w := by
  have H := last_inner b off n c p f w hn hc hp h41 hno
  clear h41 hno hc
  go_enter Tryd.func18, Tryd.ntmps18
  go_wp2_with (go_at_call 22; refine H.mono ?_; rintro e w' ⟨rfl, rfl⟩)
  go_ret
  exact ⟨rfl, rfl⟩
end Go.Proofs.Qxb6600948aDoor
