/-
  THE WALK OF FnParseStatReadsAWellFormedLine, out of its callees' contracts.
-/
import Derived.Test.Qxb6600948aDoorWalkC
import Derived.Deep.DeepCutAuto
namespace Go.Proofs.Qxb6600948aDoor
open Go.RowKit

/-- ZZParseStat at whatever parseStat's call gives. -/
theorem zzParse_any (pid ppid pgid state start : Int) (v : Value) (w : World)
    (H : Hid (Calls Tryd.prog 17 #[.int .i64 pid, v] w fun e w' => e = .returned (.tuple #[.agg #[.int .i64 pid, .int .i64 ppid, .int .i64 pgid, .int .u8 state, .int .u64 start], .bool true]) ∧ Below w.heap.size w w')) :
    Calls Tryd.prog 12 #[.int .i64 pid, v] w fun e w' => e = .returned (.tuple #[.int .i64 pid, .int .i64 ppid, .int .i64 pgid, .int .u8 state, .int .u64 start, .bool true]) ∧ Below w.heap.size w w' := by
  go_enter Tryd.func12, Tryd.ntmps12
  go_wp2_with fail
  refine H.out.mono ?_
  rintro e w1 ⟨rfl, hb1⟩
  go_wp2
  go_quiet (fail)
  go_wp2
  refine bodyPost_ret (v := .tuple #[.int .i64 pid, .int .i64 ppid, .int .i64 pgid, .int .u8 state, .int .u64 start, .bool true]) (by simp [results, Tryd.results12, go_sem]) rfl ⟨rfl, ?_⟩
  exact (hb1.alloc hb1.size _).trans ⟨rfl, rfl, rfl, Nat.le_refl _, fun _ _ => rfl⟩

/-- The bytes of a row, as a list. -/
def bytes (n : Nat) (f : Nat → UInt8) : List UInt8 := (List.range n).map f
theorem bytes_length (n : Nat) (f : Nat → UInt8) : (bytes n f).length = n := by simp [bytes]

/-- 'append' of a row that lies in memory, nil or not. -/
theorem wpList_app_row {w : World} {ops : Array Oper} {rest : List Oper} {o : Oper} {a : Act} {Q : Exit → Act → World → Prop} (hgd : o.guard = none) (s x : Operand)
    (ho : o.op = .call { callee := .builtin .append, args := #[s, x], argTypes := #[22, 22] }) (B : Nat) (v : Value) (l : List UInt8) (hs : a.eval s = v) (hown : Own B w v l)
    (ao : Option Addr) (m : Nat) (f : Nat → UInt8) (hx : a.eval x = .slice ao m m) (hnil : ao = none → m = 0) (hrow : Row w ao m (B8 f))
    (hlen : l.length + m ≤ 1099511627776) (hB : B ≤ w.heap.size)
    (h : ∀ v' w', Own B w' v' (l ++ bytes m f) → Below B w w' → wpList Tryd.prog ops Q rest (a.put o.dst v') w') : wpList Tryd.prog ops Q (o :: rest) a w := by
  cases ao with
  | none =>
    obtain rfl := hnil rfl
    obtain ⟨i0, hi, hz0, hz1, hz2⟩ := info_parts info5
    refine wpList_append_own_none hgd s x 22 ho B 5 i0 1 Tryd.underlying22 hi v l.length (Lib.byteCells l) hs hown hx (h v w ?_ (Below.refl _ _))
    simpa [bytes] using hown
  | some ad =>
    refine wpList_app hgd s x ho B v l hs hown ad m m (bytes m f) hx (bytes_length m f) (fun j hj => ?_) (by rw [bytes_length]; exact hlen) hB h
    rw [bytes_length] at hj
    rcases hrow with h0 | ⟨b, off, he, _, hc⟩
    · omega
    · cases he
      have hadd : (⟨b, off, none⟩ : Addr).add j = ⟨b, off + j, none⟩ := by unfold Addr.add; split <;> simp_all
      rw [hadd, hc j hj]
      simp [B8, bytes]

theorem own_shape {B : Nat} {w : World} {v : Value} {l : List UInt8} (h : Own B w v l) (hl : l ≠ []) : ∃ g c, v = .slice (some ⟨g, 0, none⟩) l.length c ∧ l.length ≤ c ∧ c ≤ maxLen ∧ g < w.heap.size ∧ ∀ j, j < l.length → w.cell? ⟨g, 0 + j, none⟩ = some (.int .u8 ((l.getD j 0).toNat : Int)) := by
  rcases h.2 with ⟨_, h0⟩ | ⟨g, cap, cur, rfl, hb, hg, h1, h2, _⟩
  · exact absurd (List.length_eq_zero_iff.1 h0) hl
  · refine ⟨g, cap, rfl, h1, h2, (Array.getElem?_eq_some_iff.1 hg).1, fun j hj => ?_⟩
    rw [Nat.zero_add, World.ownsRow.cellAt h j (by omega)]
    simp [Lib.byteCells, hj]

/-- The line under the hand: v owns the text l; below the clones' end nothing has turned. -/
structure Ln (w4 W : World) (v : Value) (l : List UInt8) : Prop where
  own : Own w4.heap.size W v l
  bel : Below w4.heap.size w4 W

theorem ln_int (w4 W : World) (v : Value) (l : List UInt8) (x : Int) (h0 : -9223372036854775808 ≤ x) (h1 : x ≤ 9223372036854775807) (h : Ln w4 W v l) (hl : l.length ≤ 1000000000) :
    Calls Tryd.prog 10 #[v, .int .i64 x] W fun e W' => ∃ v', e = .returned v' ∧ Ln w4 W' v' (l ++ Lib.itoa x) := by
  refine (appendInt_any w4.heap.size v l x h0 h1 W h.own h.bel.size hl).mono ?_
  rintro e W' ⟨v', rfl, ho, hb⟩
  exact ⟨v', rfl, ho, h.bel.trans hb⟩

theorem ln_uint (w4 W : World) (v : Value) (l : List UInt8) (u : Nat) (hu : u < 18446744073709551616) (h : Ln w4 W v l) (hl : l.length ≤ 1000000000) :
    Calls Tryd.prog 11 #[v, .int .u64 u] W fun e W' => ∃ v', e = .returned v' ∧ Ln w4 W' v' (l ++ Lib.decDigits u) := by
  refine (appendUint_any w4.heap.size v l u hu W h.own h.bel.size (by omega)).mono ?_
  rintro e W' ⟨v', rfl, ho, hb⟩
  exact ⟨v', rfl, ho, h.bel.trans hb⟩

/-- 'append' of bytes that the statement itself has laid. -/
theorem wpList_ln {w4 W : World} {ops : Array Oper} {rest : List Oper} {o : Oper} {a : Act} {Q : Exit → Act → World → Prop} (hgd : o.guard = none) (s x : Operand)
    (ho : o.op = .call { callee := .builtin .append, args := #[s, x], argTypes := #[22, 22] }) (v : Value) (l : List UInt8) (hs : a.eval s = v) (hL : Ln w4 W v l)
    (vs : Array Value) (m c : Nat) (news : List UInt8) (hx : a.eval x = .slice (some ⟨W.heap.size, 0, none⟩) m c) (hm : news.length = m) (hvs : vs.toList = Lib.byteCells news)
    (hlen : l.length ≤ 1000000000) (hm4 : m ≤ 4)
    (h : ∀ v' W', Ln w4 W' v' (l ++ news) → wpList Tryd.prog ops Q rest (a.put o.dst v') W') : wpList Tryd.prog ops Q (o :: rest) a (W.alloc (.cells vs 5)) := by
  have hsz := hL.bel.size
  refine wpList_app hgd s x ho w4.heap.size v l hs (hL.own.alloc _) _ m c news hx hm (one_cells W vs news hvs) (by omega) (by simp; omega) fun v' W' h1 h2 => h v' W' ⟨h1, ?_⟩
  exact (hL.bel.alloc hsz _).trans h2

/-- 'append' of a clone. -/
theorem wpList_ln_row {w4 W : World} {ops : Array Oper} {rest : List Oper} {o : Oper} {a : Act} {Q : Exit → Act → World → Prop} (hgd : o.guard = none) (s x : Operand)
    (ho : o.op = .call { callee := .builtin .append, args := #[s, x], argTypes := #[22, 22] }) (v : Value) (l : List UInt8) (hs : a.eval s = v) (hL : Ln w4 W v l)
    (ao : Option Addr) (m : Nat) (f : Nat → UInt8) (hx : a.eval x = .slice ao m m) (hnil : ao = none → m = 0) (hrow : Row w4 ao m (B8 f))
    (hlen : l.length ≤ 1000000000) (hm : m ≤ 1000000000)
    (h : ∀ v' W', Ln w4 W' v' (l ++ bytes m f) → wpList Tryd.prog ops Q rest (a.put o.dst v') W') : wpList Tryd.prog ops Q (o :: rest) a W :=
  wpList_app_row hgd s x ho w4.heap.size v l hs hL.own ao m f hx hnil (hrow.below hL.bel) (by omega) hL.bel.size fun v' W' h1 h2 => h v' W' ⟨h1, hL.bel.trans h2⟩

/-- The line is the text up to the last closing bracket, the bracket, and the tail. -/
theorem line_eq (linePid ppid pgid : Int) (state : UInt8) (start : Nat) (cm rs : List UInt8) :
    Lib.itoa linePid ++ [32, 40] ++ cm ++ [41, 32, state, 32] ++ Lib.itoa ppid ++ [32] ++ Lib.itoa pgid ++ mids 16 ++ [32] ++ Lib.decDigits start ++ rs =
      (Lib.itoa linePid ++ [32, 40] ++ cm) ++ 41 :: tailT state ppid pgid start rs := by
  simp [tailT]

theorem mids_len (k : Nat) (hk : k ≤ 16) : (mids k).length ≤ 22 * k := by
  induction k with
  | zero => simp [mids]
  | succ k ih =>
    have := Lib.itoa_length_le (6 + (k : Int)) (by omega) (by omega)
    rw [mids_succ]
    simp only [List.length_append, List.length_cons, List.length_nil]
    have := ih (by omega)
    omega

theorem getD_mid (pre tl : List UInt8) (x : UInt8) : (pre ++ x :: tl).getD pre.length 0 = x := by simp
theorem getD_tail (pre tl : List UInt8) (x : UInt8) (j : Nat) (hj : j < tl.length) : (pre ++ x :: tl).getD (pre.length + 1 + j) 0 = tl[j] := by
  rw [List.getD_eq_getElem?_getD, List.getElem?_append_right (by omega), show pre.length + 1 + j - pre.length = j + 1 by omega]
  simp [hj]

theorem ends_bytes (n : Nat) (g : Nat → UInt8) (h : n = 0 ∨ Lib.isSp (g 0) = true) : Ends (bytes n g) := by
  rcases Nat.eq_zero_or_pos n with rfl | hn
  · exact .inl rfl
  · right
    obtain ⟨m, rfl⟩ : ∃ m, n = m + 1 := ⟨n - 1, by omega⟩
    refine ⟨g 0, (List.range m).map (fun j => g (j + 1)), ?_, ?_⟩
    · simp [bytes, List.range_succ_eq_map, Function.comp_def]
    · rcases h with h | h
      · omega
      · exact h

/-- ZZParseStat at the line. -/
theorem parse_line (w4 W : World) (v : Value) (pid linePid ppid pgid : Int) (state : UInt8) (start : Nat) (n n2 : Nat) (f g : Nat → UInt8) (htab : Tabs w4) (h41 : ¬ state = 41) (hsp : Lib.isSp state = false)
    (hcl : ∀ j, j < n2 → g j ≠ 41) (hE : n2 = 0 ∨ Lib.isSp (g 0) = true) (hn : n ≤ 65536) (hn2 : n2 ≤ 262144)
    (hl1 : -9223372036854775808 ≤ linePid) (hl2 : linePid ≤ 9223372036854775807) (hp1 : -9223372036854775808 ≤ ppid) (hp2 : ppid ≤ 9223372036854775807) (hg1 : -9223372036854775808 ≤ pgid) (hg2 : pgid ≤ 9223372036854775807) (hst : start < 18446744073709551616)
    (hL : Ln w4 W v (Lib.itoa linePid ++ [32, 40] ++ bytes n f ++ [41, 32, state, 32] ++ Lib.itoa ppid ++ [32] ++ Lib.itoa pgid ++ mids 16 ++ [32] ++ Lib.decDigits start ++ bytes n2 g)) :
    Calls Tryd.prog 12 #[.int .i64 pid, v] W fun e w' => e = .returned (.tuple #[.int .i64 pid, .int .i64 ppid, .int .i64 pgid, .int .u8 (state.toNat : Int), .int .u64 start, .bool true]) ∧ Below W.heap.size W w' := by
  have q1 := Lib.itoa_length_le linePid hl1 hl2
  have q2 := Lib.itoa_length_le ppid hp1 hp2
  have q3 := Lib.itoa_length_le pgid hg1 hg2
  have q4 := Lib.nDigits_le20 start hst
  have q5 := mids_len 16 (by omega)
  have hO := hL.own
  rw [line_eq] at hO
  obtain ⟨R, hR⟩ := fields_tail state hsp ppid pgid start (bytes n2 g) (ends_bytes n2 g hE)
  have hT0 : (tailT state ppid pgid start (bytes n2 g)).length ≤ 1000000 ∧ 0 < (tailT state ppid pgid start (bytes n2 g)).length := by
    simp only [tailT, List.length_append, List.length_cons, List.length_nil, bytes_length, Lib.decDigits_length]
    omega
  have hno := no_close state h41 ppid pgid start (bytes n2 g) (fun b hb => by
    simp only [bytes, List.mem_map, List.mem_range] at hb
    obtain ⟨j, hj, rfl⟩ := hb
    exact hcl j hj)
  obtain ⟨T, hT⟩ : ∃ T, T = tailT state ppid pgid start (bytes n2 g) := ⟨_, rfl⟩
  obtain ⟨pre, hpre⟩ : ∃ pre, pre = Lib.itoa linePid ++ [32, 40] ++ bytes n f := ⟨_, rfl⟩
  have hpl : pre.length ≤ 1000000 := by rw [hpre]; simp only [List.length_append, List.length_cons, List.length_nil, bytes_length]; omega
  rw [← hT] at hO hR hT0 hno
  rw [← hpre] at hO
  obtain ⟨b, c, rfl, hc1, hc2, hbl, hcells⟩ := own_shape hO (by simp)
  have hlen : (pre ++ 41 :: T).length = pre.length + 1 + T.length := by simp; omega
  refine zzParse_any pid ppid pgid (state.toNat : Int) start _ W ?_
  have h19 := toks_length ppid pgid start
  refine parseStat_any pid ppid pgid state start T ([state] :: toks ppid pgid start ++ R) b 0 (pre ++ 41 :: T).length c pre.length (fun j => (pre ++ 41 :: T).getD j 0) W (by rw [hlen]; omega) hc1 hc2 hbl hcells hlen hT0.2 (fun j hj => getD_tail pre T 41 j hj) (getD_mid pre T 41) hno hR
    (by simp [h19]) rfl rfl rfl ?_ hp1 hp2 hg1 hg2 hst (htab.on hL.bel)
  rw [List.cons_append, List.getElem?_cons_succ, List.getElem?_append_left (by omega)]
  simp [toks]

set_option maxHeartbeats 2000000 in
set_option maxRecDepth 100000 in
theorem main_any (a a2 : Option Addr) (n c n2 c2 : Nat) (f g : Nat → UInt8) (pid linePid ppid pgid : Int) (state : UInt8) (start : Nat) (w : World) (hn : n ≤ maxLen) (hn2 : n2 ≤ maxLen)
    (h : Row w a n (B8 f)) (h2 : Row w a2 n2 (B8 g)) (hnil : a = none → n = 0 ∧ c = 0) (hnil2 : a2 = none → n2 = 0 ∧ c2 = 0)
    (hl1 : -9223372036854775808 ≤ linePid) (hl2 : linePid ≤ 9223372036854775807) (hp1 : -9223372036854775808 ≤ ppid) (hp2 : ppid ≤ 9223372036854775807) (hg1 : -9223372036854775808 ≤ pgid) (hg2 : pgid ≤ 9223372036854775807) (hst : start < 18446744073709551616) (htab : Tabs w) :
    Calls Tryd.prog 3 #[.int .i64 pid, .int .i64 linePid, .slice a n c, .int .u8 (state.toNat : Int), .int .i64 ppid, .int .i64 pgid, .int .u64 start, .slice a2 n2 c2] w fun e w' => e = .returned (.bool true) ∧ Below w.heap.size w w' := by
  go_enter Tryd.func3, Tryd.ntmps3
  go_wp2_with fail
  refine (zz_any a a2 n c n2 c2 pid linePid ppid pgid _ _ w hn hn2).mono ?_
  rintro e w' ⟨⟨b, rfl⟩, rfl⟩
  unfold maxLen at hn hn2
  cases b
  · go_wp2
    go_ret
    exact ⟨rfl, Below.refl _ _⟩
  by_cases hA : n ≤ 65536 ∧ n2 ≤ 262144
  case neg =>
    rcases (by omega : 65536 < n ∨ (n ≤ 65536 ∧ 262144 < n2)) with hA | hA
    · go_wp2
      go_ret
      exact ⟨rfl, Below.refl _ _⟩
    · obtain ⟨hA1, hA2⟩ := hA
      go_wp2
      go_ret
      exact ⟨rfl, Below.refl _ _⟩
  obtain ⟨hA1, hA2⟩ := hA
  by_cases hs41 : state = 41
  · subst hs41
    have e41 : (((41 : UInt8).toNat : Int) == 41) = true := rfl
    go_wp2
    go_ret
    exact ⟨rfl, Below.refl _ _⟩
  have e41 : ((state.toNat : Int) == 41) = false := by
    simp only [beq_eq_false_iff_ne, ne_eq]
    intro e
    exact hs41 (UInt8.toNat_inj.1 (show state.toNat = 41 by omega))
  have H41 : Hid (¬ state = 41) := hs41
  clear hs41
  go_wp2_with fail
  refine (isSpace_any state w').mono ?_
  rintro e w1 ⟨rfl, rfl⟩
  cases hsp : Lib.isSp state
  case true =>
    go_wp2
    go_ret
    exact ⟨rfl, Below.refl _ _⟩
  have HSP : Hid (Lib.isSp state = false) := hsp
  clear hsp
  go_wp2_with fail
  refine (hasClose_any a2 n2 c2 g w1 (by omega) h2).mono ?_
  rintro e w2 ⟨⟨b, rfl, hcl⟩, rfl⟩
  cases b
  case true =>
    go_wp2
    go_ret
    exact ⟨rfl, Below.refl _ _⟩
  have HCL : Hid (∀ j, j < n2 → g j ≠ 41) := hcl rfl
  clear hcl
  by_cases hE : n2 = 0 ∨ Lib.isSp (g 0) = true
  case neg =>
    have h0 : 0 < n2 := by omega
    have hns : Lib.isSp (g 0) = false := by cases hh : Lib.isSp (g 0) with | false => rfl | true => exact absurd (.inr hh) hE
    have h2' := h2
    rcases h2' with h2' | ⟨b, off, rfl, hb, hc⟩
    · omega
    have hc0 : w2.cell? ⟨b, off, none⟩ = some (.int .u8 ((g 0).toNat : Int)) := hc 0 h0
    have hi0 : (0 : Int) < (n2 : Int) := by omega
    clear hc hE
    go_wp2_with fail
    refine (isSpace_any (g 0) w2).mono ?_
    rintro e w3 ⟨rfl, rfl⟩
    go_wp2
    go_ret
    exact ⟨rfl, Below.refl _ _⟩
  have HE : Hid (n2 = 0 ∨ Lib.isSp (g 0) = true) := hE
  clear hE
  go_upto_region 9 with fail
  go_cut [60] (fun s wr => s = .bool false ∧ wr = w2)
  case first =>
    rcases HE.out with h0 | h0
    · subst h0
      go_wp2
      go_meet
      case rel => exact ⟨rfl, rfl⟩
    · by_cases hz : n2 = 0
      · subst hz
        go_wp2
        go_meet
        case rel => exact ⟨rfl, rfl⟩
      have h0' : 0 < n2 := by omega
      clear hz
      have h2' := h2
      rcases h2' with h2' | ⟨b, off, rfl, hb, hc⟩
      · omega
      have hc0 : w2.cell? ⟨b, off, none⟩ = some (.int .u8 ((g 0).toNat : Int)) := hc 0 h0'
      have hi0 : (0 : Int) < (n2 : Int) := by omega
      have HS0 : Hid (Lib.isSp (g 0) = true) := h0
      clear hc h0
      go_wp2_with fail
      refine (isSpace_any (g 0) w2).mono ?_
      rintro e w3 ⟨rfl, rfl⟩
      rw [HS0.out]
      go_wp2
      go_meet
      case rel => exact ⟨rfl, rfl⟩
  case rest =>
    obtain ⟨rfl, rfl⟩ := hcut
    go_wp2_with fail
    refine (clone_any a n c f wc (by omega) hnil h).mono ?_
    rintro e w3 ⟨ac, rfl, hacn, hr, hb3⟩
    have hr2 := h2.below hb3
    have htab3 := htab.on hb3
    clear h h2 hnil htab
    go_wp2_with fail
    refine (clone_any a2 n2 c2 g w3 (by omega) hnil2 hr2).mono ?_
    rintro e w4 ⟨ar, rfl, harn, hs2, hb4⟩
    have hs1 := hr.below hb4
    have htab4 := htab3.on hb4
    have hbw4 : Below wc.heap.size wc w4 := hb3.trans (hb4.mono hb3.size)
    clear hr hr2 hnil2 htab3 hb3 hb4
    obtain ⟨i0, hi, hz0, hz1, hz2⟩ := info_parts info5
    go_wp2_with (at_make; refine wpList_make_own _ rfl _ _ 22 rfl w4.heap.size 5 i0 (.int .u8 0) 1 Tryd.underlying22 hi hz0 hz1 .i64 .i64 _ (n + n2 + 512) rfl rfl (by omega) (by rw [hz2]; omega) (by unfold maxLen; omega) (Nat.le_refl _) ?_; intro w5 hown hgrow)
    have hL5 : Ln w4 w5 (.slice (some ⟨w4.heap.size, 0, none⟩) 0 (n + n2 + 512)) [] := ⟨hown, (Below.refl _ _).grown hgrow (Nat.le_refl _) (fun k hk => by cases hk)⟩
    clear hown hgrow hi hz0 hz1 hz2
    have q1 := Lib.itoa_length_le linePid hl1 hl2
    have q2 := Lib.itoa_length_le ppid hp1 hp2
    have q3 := Lib.itoa_length_le pgid hg1 hg2
    refine (ln_int w4 w5 _ [] linePid hl1 hl2 hL5 (by simp)).mono ?_
    rintro e w6 ⟨v6, rfl, hL6⟩
    clear hL5
    simp only [List.nil_append] at hL6
    go_wp2_with (first
      | (at_builtin; refine wpList_ln rfl (.tmp 75) (.tmp 76) rfl v6 _ rfl hL6 _ _ _ [32, 40] rfl rfl rfl (by omega) (by omega) ?_; intro v7 w7 hL7)
      | (at_builtin; refine wpList_ln_row rfl (.tmp 78) (.tmp 79) rfl v7 _ rfl hL7 ac n f rfl hacn hs1 (by simp; omega) (by omega) ?_; intro v8 w8 hL8)
      | (at_builtin; refine wpList_ln rfl (.tmp 81) (.tmp 83) rfl v8 _ rfl hL8 _ _ _ [41, 32, state, 32] rfl rfl rfl (by simp [bytes_length]; omega) (by omega) ?_; intro v9 w9 hL9))
    clear hL6
    refine (ln_int w4 w9 v9 _ ppid hp1 hp2 hL9 (by simp [bytes_length]; omega)).mono ?_
    rintro e w10 ⟨v10, rfl, hL10⟩
    go_wp2_with (at_builtin; refine wpList_ln rfl (.tmp 88) (.tmp 89) rfl v10 _ rfl hL10 _ _ _ [32] rfl rfl rfl (by simp [bytes_length]; omega) (by omega) ?_; intro v11 w11 hL11)
    refine (ln_int w4 w11 v11 _ pgid hg1 hg2 hL11 (by simp [bytes_length]; omega)).mono ?_
    rintro e w12 ⟨v12, rfl, hL12⟩
    clear hL7 hL8 hL9 hL10 hL11
    obtain ⟨L, hLL⟩ : ∃ L, L = Lib.itoa linePid ++ [32, 40] ++ bytes n f ++ [41, 32, state, 32] ++ Lib.itoa ppid ++ [32] ++ Lib.itoa pgid := ⟨_, rfl⟩
    have hLlen : L.length ≤ 1000000 := by rw [hLL]; simp [bytes_length]; omega
    rw [← hLL] at hL12
    have HLL : Hid (L = Lib.itoa linePid ++ [32, 40] ++ bytes n f ++ [41, 32, state, 32] ++ Lib.itoa ppid ++ [32] ++ Lib.itoa pgid) := hLL
    clear hLL
    go_wp2
    go_loopw [17, 18] (fun v i wr => ∃ k : Nat, k ≤ 16 ∧ i = .int .i64 (6 + (k : Int)) ∧ Ln w4 wr v (L ++ mids k)) (fun _ i _ => (22 - intOf i).toNat)
    case atStart => exact ⟨0, by omega, by go_num, by simpa [mids] using hL12⟩
    case round =>
      obtain ⟨k, hk, rfl, hLk⟩ := hrel
      clear hL12
      have hml := mids_len k hk
      by_cases hlt : k < 16
      · go_wp2_with (at_builtin; refine wpList_ln rfl (.tmp 98) (.tmp 99) rfl _ _ rfl hLk _ _ _ [32] rfl rfl rfl (by simp; omega) (by omega) ?_; intro v13 w13 hL13)
        refine (ln_int w4 w13 v13 _ (6 + (k : Int)) (by omega) (by omega) hL13 (by simp; omega)).mono ?_
        rintro e w14 ⟨v14, rfl, hL14⟩
        go_wp2
        go_roundw
        case rel => exact ⟨k + 1, by omega, by go_num, by rw [mids_succ]; simpa using hL14⟩
        case measure => simp [intOf]; omega
      · obtain rfl : k = 16 := by omega
        go_wp2_with (at_builtin; refine wpList_ln rfl (.tmp 104) (.tmp 105) rfl _ _ rfl hLk _ _ _ [32] rfl rfl rfl (by simp; omega) (by omega) ?_; intro v13 w13 hL13)
        refine (ln_uint w4 w13 v13 _ start hst hL13 (by simp; omega)).mono ?_
        rintro e w14 ⟨v14, rfl, hL14⟩
        have q4 := Lib.nDigits_le20 start hst
        rw [← Lib.decDigits_length] at q4
        go_wp2_with (at_builtin; refine wpList_ln_row rfl (.tmp 110) (.tmp 111) rfl v14 _ rfl hL14 ar n2 g rfl harn hs2 (by simp; omega) (by omega) ?_; intro v15 w15 hL15)
        have hbw : Below wc.heap.size wc w15 := hbw4.trans (hL15.bel.mono hbw4.size)
        refine (parse_line w4 w15 v15 pid linePid ppid pgid state start n n2 f g htab4 H41.out HSP.out HCL.out HE.out hA1 hA2 hl1 hl2 hp1 hp2 hg1 hg2 hst (by rw [HLL.out] at hL15; exact hL15)).mono ?_
        rintro e w16 ⟨rfl, hb16⟩
        go_wp2
        go_ret
        exact ⟨rfl, hbw.trans (hb16.mono hbw.size)⟩
end Go.Proofs.Qxb6600948aDoor
