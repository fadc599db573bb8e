/-
  THE WALK OF FnPathStringCutAtAnyStep, out of its callees' contracts.
-/
import Derived.Test.Qxb6003658aDoorWalkD
import Derived.Deep.RegionWith
import Derived.Deep.DeepCutAuto
import Derived.BigRegion
namespace Go.Proofs.Qxb6003658aDoor
open Go.RowKit

/-- The state between the calls: the two copies lie as they lay; nothing old has turned; the table stands. -/
structure St (w0 w : World) (b b2 : Option Addr) (n : Nat) (ns : Nat → ByteArray) (is : Nat → Int) : Prop where
  names : Row w b n (fun j => .string (ns j))
  indexes : Row w b2 n (fun j => .int .i64 (is j))
  below : Below w0.heap.size w0 w
  tab : Lib.TabIs Tryd.prog w powName .u64 Lib.pow10Tab

theorem St.drew {w0 w : World} {b b2 : Option Addr} {n : Nat} {ns : Nat → ByteArray} {is : Nat → Int} (h : St w0 w b b2 n ns is) : St w0 w.drew b b2 n ns is := ⟨h.names, h.indexes, h.below.drew, h.tab⟩

theorem St.on {w0 w w' : World} {b b2 : Option Addr} {n : Nat} {ns : Nat → ByteArray} {is : Nat → Int} (h : St w0 w b b2 n ns is) (hb : Below w.heap.size w w') : St w0 w' b b2 n ns is :=
  ⟨h.names.below hb, h.indexes.below hb, h.below.trans (hb.mono h.below.size), Lib.tabBelow_of_tabIs h.tab _ hb⟩

theorem Row.part {w : World} {a : Option Addr} {n : Nat} {f : Nat → Value} (h : Row w a n f) (l m : Nat) (hm : l + m ≤ n) (a' : Option Addr) (ha : 0 < m → ∀ b off, a = some ⟨b, off, none⟩ → a' = some ⟨b, off + l, none⟩) : Row w a' m (fun j => f (l + j)) := by
  rcases Nat.eq_zero_or_pos m with rfl | hm0
  · exact .inl rfl
  rcases h with h | ⟨b, off, hab, hlt, hc⟩
  · omega
  · exact .inr ⟨b, off + l, ha hm0 b off hab, hlt, fun j hj => by have := hc (l + j) (by omega); rwa [← Nat.add_assoc] at this⟩

/-- ZZNewPath at a part of the two copies. -/
theorem call7 (w0 w : World) (b b2 : Option Addr) (n : Nat) (ns : Nat → ByteArray) (is : Nat → Int) (hn : n ≤ 65536) (l m : Nat) (hm : l + m ≤ n) (a a2 : Option Addr) (c c2 : Nat) (h : St w0 w b b2 n ns is)
    (ha : 0 < m → ∀ k off, b = some ⟨k, off, none⟩ → a = some ⟨k, off + l, none⟩) (ha2 : 0 < m → ∀ k off, b2 = some ⟨k, off, none⟩ → a2 = some ⟨k, off + l, none⟩) (ln : Int) :
    Calls Tryd.prog 7 #[.slice a m c, .slice a2 m c2, .int .i64 ln] w fun e w' => ∃ p : Nat, e = .returned (.pointer (some ⟨p, 0, none⟩)) ∧ PathAt w' p m ln (fun j => ns (l + j)) (fun j => is (l + j)) ∧ St w0 w' b b2 n ns is := by
  refine (newPath_any a a2 m c m c2 ln _ _ w (by omega) (Nat.le_refl _) (by unfold maxLen; omega) (h.names.part l m hm a ha) (h.indexes.part l m hm a2 ha2)).mono ?_
  rintro e w' ⟨p, rfl, hP, hb⟩
  exact ⟨p, rfl, hP, h.on hb⟩

/-- The text of the steps from l on, m of them. -/
def partT (ns : Nat → ByteArray) (is : Nat → Int) (l m : Nat) : ByteArray := ⟨(pathT (fun j => ns (l + j)) (fun j => is (l + j)) m).toArray⟩

/-- (*Path).String at a Path that was just made. -/
theorem call8 (w0 w : World) (b b2 : Option Addr) (n : Nat) (ns : Nat → ByteArray) (is : Nat → Int) (l m : Nat) (hn : n ≤ 65536) (hm : l + m ≤ n) (ht : tot ns n ≤ 1048576) (hI : I64 is n) (p ln : Nat) (hln : ln ≤ 1048576)
    (hP : PathAt w p m ln (fun j => ns (l + j)) (fun j => is (l + j))) (h : St w0 w b b2 n ns is) :
    Calls Tryd.prog 8 #[.pointer (some ⟨p, 0, none⟩)] w fun e w' => e = .returned (.string (partT ns is l m)) ∧ St w0 w' b b2 n ns is := by
  have h1 := tot_shift ns l m
  have h2 := tot_le ns hm
  refine (pathString_any p m ln _ _ w hP hln (by omega) (by omega) (fun j hj => hI (l + j) (by omega)) h.tab).mono ?_
  rintro e w' ⟨rfl, hb⟩
  exact ⟨rfl, h.on hb⟩

theorem addr_part (b : Option Addr) (l : Nat) : ∀ k off, b = some ⟨k, off, none⟩ → b.map (fun x => x.add l) = some ⟨k, off + l, none⟩ := by
  intro k off h
  have hadd : (⟨k, off, none⟩ : Addr).add l = ⟨k, off + l, none⟩ := by unfold Addr.add; split <;> simp_all
  rw [h, Option.map_some, hadd]

theorem partT_size (ns : Nat → ByteArray) (is : Nat → Int) (l m n : Nat) (hm : l + m ≤ n) (hn : n ≤ 65536) (ht : tot ns n ≤ 1048576) (hI : I64 is n) : (partT ns is l m).size ≤ 16777216 := by
  have h1 := tot_shift ns l m
  have h2 := tot_le ns hm
  have h3 := pathT_len (fun j => ns (l + j)) (fun j => is (l + j)) m (fun j hj => hI (l + j) (by omega))
  simp only [partT, ByteArray.size, List.size_toArray]
  omega

theorem wrap_one (m : Nat) (h : m ≤ 65536) : IntKind.i64.wrap ((m : Int) + 1) = (m : Int) + 1 := by
  rw [IntKind.wrap_i64]
  omega

theorem St.cellN {w0 w : World} {kb off : Nat} {b2 : Option Addr} {n : Nat} {ns : Nat → ByteArray} {is : Nat → Int} (h : St w0 w (some ⟨kb, off, none⟩) b2 n ns is) {m : Nat} (hm : m < n) : w.cell? ⟨kb, off + m, none⟩ = some (.string (ns m)) := by
  rcases h.names with h | ⟨k, o, he, _, hc⟩
  · omega
  · cases he
    exact hc m hm

theorem St.cellI {w0 w : World} {kb off : Nat} {b : Option Addr} {n : Nat} {ns : Nat → ByteArray} {is : Nat → Int} (h : St w0 w b (some ⟨kb, off, none⟩) n ns is) {m : Nat} (hm : m < n) : w.cell? ⟨kb, off + m, none⟩ = some (.int .i64 (is m)) := by
  rcases h.indexes with h | ⟨k, o, he, _, hc⟩
  · omega
  · cases he
    exact hc m hm

theorem cut_dot (ns : Nat → ByteArray) (is : Nat → Int) (m n : Nat) (hm : m < n) (h0 : 0 < m) (hi : is m < 0) : ((partT ns is 0 n).toList == (partT ns is 0 m ++ ⟨#[46]⟩ ++ partT ns is m (n - m)).toList) = true := by
  have h := pathT_cut ns is m (n - m)
  rw [if_pos (by omega), Nat.add_sub_cancel' (by omega)] at h
  have e : partT ns is 0 n = partT ns is 0 m ++ ⟨#[46]⟩ ++ partT ns is m (n - m) := by
    apply ByteArray.ext
    simp only [partT, Nat.zero_add, ByteArray.data_append, h]
    simp
  rw [e]
  simp

theorem cut_bare (ns : Nat → ByteArray) (is : Nat → Int) (m n : Nat) (hm : m ≤ n) (hi : ¬ (0 < m ∧ m < n ∧ is m < 0)) : ((partT ns is 0 n).toList == (partT ns is 0 m ++ ⟨#[]⟩ ++ partT ns is m (n - m)).toList) = true := by
  have h := pathT_cut ns is m (n - m)
  rw [if_neg (by omega), Nat.add_sub_cancel' (by omega)] at h
  have e : partT ns is 0 n = partT ns is 0 m ++ ⟨#[]⟩ ++ partT ns is m (n - m) := by
    apply ByteArray.ext
    simp only [partT, Nat.zero_add, ByteArray.data_append, h]
    simp
  rw [e]
  simp

theorem one_name (ns : Nat → ByteArray) (is : Nat → Int) (m : Nat) (hi : is m < 0) : ((partT ns is m 1).toList == (ns m).toList) = true := by
  have e : partT ns is m 1 = ns m := by
    apply ByteArray.ext
    simp only [partT]
    rw [pathT_one, if_neg (by simpa using hi)]
    simp
  rw [e]
  simp

theorem one_index (ns : Nat → ByteArray) (is : Nat → Int) (m : Nat) (hi : 0 ≤ is m) (d : ByteArray) (hd : (⟨(Lib.itoa (is m)).toArray⟩ : ByteArray) = d) : ((partT ns is m 1).toList == ((⟨#[91]⟩ : ByteArray) ++ d ++ ⟨#[93]⟩).toList) = true := by
  have e : partT ns is m 1 = (⟨#[91]⟩ : ByteArray) ++ d ++ ⟨#[93]⟩ := by
    subst hd
    apply ByteArray.ext
    simp only [partT]
    rw [pathT_one, if_pos (by simpa using hi)]
    simp [ByteArray.data_append]
  rw [e]
  simp

set_option maxHeartbeats 4000000 in
set_option maxRecDepth 100000 in
theorem main_any (a a2 : Option Addr) (n c n2 c2 : Nat) (ln k : Int) (ns : Nat → ByteArray) (is : Nat → Int) (w : World) (hn : n ≤ maxLen) (hn2 : n2 ≤ maxLen) (hs : ∀ j, j < n → (ns j).size ≤ maxLen)
    (h : Row w a n (fun j => .string (ns j))) (h2 : Row w a2 n2 (fun j => .int .i64 (is j))) (hnil : a = none → n = 0 ∧ c = 0) (hnil2 : a2 = none → n2 = 0 ∧ c2 = 0) (hI : I64 is n2)
    (htab : Lib.TabIs Tryd.prog w powName .u64 Lib.pow10Tab) :
    Calls Tryd.prog 3 #[.slice a n c, .slice a2 n2 c2, .int .i64 ln, .int .i64 k] w fun e w' => e = .returned (.bool true) ∧ Below w.heap.size w w' := by
  have HT : Hid (Lib.TabBelow Tryd.prog w.heap.size w powName .u64 Lib.pow10Tab) := Lib.tabBelow_of_tabIs htab
  clear htab
  go_enter Tryd.func3, Tryd.ntmps3
  go_wp2_with fail
  refine (zz_any a a2 n c n2 c2 ln k ns hs w hn hn2 h).mono ?_
  rintro e w' ⟨⟨b, rfl, hs'⟩, rfl⟩
  clear hs
  unfold maxLen at hn hn2
  cases b
  · go_wp2
    go_ret
    exact ⟨rfl, Below.refl _ _⟩
  have hs := hs' rfl
  clear hs'
  by_cases hA : n ≤ 65536 ∧ n2 ≤ 65536
  · obtain ⟨hA1, hA2⟩ := hA
    go_wp2
    go_loop [9, 10] (fun t i => ∃ j : Nat, j ≤ n ∧ 8 * n2 + tot ns j ≤ 1048576 ∧ t = .int .i64 (8 * n2 + tot ns j) ∧ i = .int .i64 j) (fun _ i => n - (intOf i).toNat)
    case atStart => exact ⟨0, by omega, by simp [tot]; omega, by simp [tot], by go_num⟩
    case round =>
      obtain ⟨j, hj, hb, rfl, rfl⟩ := hrel
      by_cases hlt : j < n
      · have h' := h
        rcases h' with h' | ⟨b, off, rfl, hbk, hc⟩
        · omega
        have hcj := hc j hlt
        have hsj := hs j hlt
        have HS : Hid (tot ns (j + 1) = tot ns j + (ns j).size) := rfl
        clear hc h h2 hI
        go_wp2
        · go_ret
          exact ⟨rfl, Below.refl _ _⟩
        · go_round
          case rel => exact ⟨j + 1, by omega, by rw [HS.out]; omega, by rw [HS.out]; go_num, by go_num⟩
          case measure => simp [intOf]; omega
      · obtain rfl : j = n := by omega
        by_cases hE : n2 = j
        · subst hE
          by_cases hL : 0 ≤ ln ∧ ln ≤ 1048576
          · obtain ⟨hL1, hL2⟩ := hL
            by_cases hK : 0 ≤ k ∧ k ≤ n2
            · obtain ⟨hK1, hK2⟩ := hK
              obtain ⟨l, rfl⟩ := Int.eq_ofNat_of_zero_le hL1
              obtain ⟨m, rfl⟩ := Int.eq_ofNat_of_zero_le hK1
              go_wp2_with fail
              refine (cloneS_any a n2 c ns w' (by omega) hnil h).mono ?_
              rintro e w1 ⟨b, rfl, hr, hb1⟩
              have hr2 := h2.below hb1
              clear h h2 hnil
              go_wp2_with fail
              refine (cloneI_any a2 n2 c2 is w1 (by omega) hnil2 hr2).mono ?_
              rintro e w2 ⟨b2, rfl, hr2', hb2⟩
              have hr' := hr.below hb2
              have hbw2 : Below w'.heap.size w' w2 := hb1.trans (hb2.mono hb1.size)
              clear hr hr2 hnil2 hb1 hb2
              go_wp2_with fail
              have hS2 : St w' w2 b b2 n2 ns is := ⟨hr', hr2', hbw2, HT.out _ hbw2⟩
              clear hr' hr2' hbw2 HT
              refine (call7 w' w2 b b2 n2 ns is (by omega) 0 n2 (by omega) b b2 n2 n2 hS2 (fun _ _ _ h => by simpa using h) (fun _ _ _ h => by simpa using h) l).mono ?_
              rintro e w3 ⟨p, rfl, hP, hS3⟩
              go_wp2_with fail
              refine (call8 w' w3 b b2 n2 ns is 0 n2 (by omega) (by omega) (by omega) hI p l (by omega) hP hS3).mono ?_
              rintro e w4 ⟨rfl, hS4⟩
              clear hS2 hS3 hP
              have HI : Hid (I64 is n2) := hI
              have HB : Hid (8 * n2 + tot ns n2 ≤ 1048576) := hb
              clear hI hb
              obtain ⟨sw, hsw⟩ : ∃ sw, sw = partT ns is 0 n2 := ⟨_, rfl⟩
              obtain ⟨sl, hsl⟩ : ∃ sl, sl = partT ns is 0 m := ⟨_, rfl⟩
              have HSW : Hid (sw = partT ns is 0 n2) := hsw
              have HSL : Hid (sl = partT ns is 0 m) := hsl
              rw [← hsw]
              clear hsw hsl
              have hm2 : m ≤ n2 := by omega
              go_wp2_with fail
              go_cut [13] (fun s wr => s = .string sl ∧ St w' wr b b2 n2 ns is)
              case first =>
                go_region_with (first
                  | (go_at_call 7; refine (call7 w' _ b b2 n2 ns is (by omega) 0 m (by omega) _ _ _ _ hS4.drew (fun _ _ _ h => by simpa using h) (fun _ _ _ h => by simpa using h) 0).mono ?_; rintro e w5 ⟨p5, rfl, hP5, hS5⟩)
                  | (go_at_call 8; refine (call8 w' _ b b2 n2 ns is 0 m (by omega) (by omega) (by have := HB.out; omega) HI.out _ 0 (by omega) (by assumption) (by assumption)).mono ?_; rintro e w6 ⟨rfl, hS6⟩))
                go_wp2
                go_meet
                case rel => exact ⟨by rw [HSL.out], by assumption⟩
              case rest =>
                obtain ⟨rfl, hS6⟩ := hcut
                clear hS4
                obtain ⟨sr, hsr⟩ : ∃ sr, sr = partT ns is m (n2 - m) := ⟨_, rfl⟩
                have HSR : Hid (sr = partT ns is m (n2 - m)) := hsr
                clear hsr
                go_wp2_with fail
                go_cut [14] (fun s wr => s = .string sr ∧ St w' wr b b2 n2 ns is)
                case first =>
                  by_cases hmn : m < n2
                  · have hne : ¬ (n2 = m) := by omega
                    go_region_with (first
                      | (go_at_call 7; refine (call7 w' _ b b2 n2 ns is (by omega) m (n2 - m) (by omega) _ _ _ _ hS6.drew (fun _ => addr_part b m) (fun _ => addr_part b2 m) 0).mono ?_; rintro e w5 ⟨p5, rfl, hP5, hS5⟩)
                      | (go_at_call 8; refine (call8 w' _ b b2 n2 ns is m (n2 - m) (by omega) (by omega) (by have := HB.out; omega) HI.out _ 0 (by omega) (by assumption) (by assumption)).mono ?_; rintro e w6 ⟨rfl, hS7⟩))
                    go_wp2
                    go_meet
                    case rel => exact ⟨by rw [HSR.out], by assumption⟩
                  · obtain rfl : n2 = m := by omega
                    have HSR' : Hid (sr = partT ns is n2 0) := by have := HSR.out; rwa [Nat.sub_self] at this
                    clear HSR
                    go_region_with (first
                      | (go_at_call 7; refine (call7 w' _ b b2 n2 ns is (by omega) n2 0 (by omega) _ _ _ _ hS6.drew (fun h => absurd h (by omega)) (fun h => absurd h (by omega)) 0).mono ?_; rintro e w5 ⟨p5, rfl, hP5, hS5⟩)
                      | (go_at_call 8; refine (call8 w' _ b b2 n2 ns is n2 0 (by omega) (by omega) (by have := HB.out; omega) HI.out _ 0 (by omega) (by assumption) (by assumption)).mono ?_; rintro e w6 ⟨rfl, hS7⟩))
                    go_wp2
                    go_meet
                    case rel => exact ⟨by rw [HSR'.out], by assumption⟩
                case rest =>
                  obtain ⟨rfl, hS7⟩ := hcut
                  clear hS6
                  have hzl : sl.size ≤ 16777216 := by rw [HSL.out]; exact partT_size ns is 0 m n2 (by omega) (by omega) (by have := HB.out; omega) HI.out
                  have hzr : sr.size ≤ 16777216 := by rw [HSR.out]; exact partT_size ns is m (n2 - m) n2 (by omega) (by omega) (by have := HB.out; omega) HI.out
                  by_cases hmn : m < n2
                  · rcases hS7.names with h | ⟨kb, off, rfl, hkb, hcn⟩
                    · omega
                    rcases hS7.indexes with h | ⟨kb2, off2, rfl, hkb2, hci⟩
                    · omega
                    have hcm := hci m hmn
                    have hnm := hcn m hmn
                    clear hci hcn
                    have hne : ¬ (n2 = m) := by omega
                    have hm1 : (m : Int) + 1 ≤ (n2 : Int) := by omega
                    have hwr : IntKind.i64.wrap ((m : Int) + 1) = (m : Int) + 1 := wrap_one m (by omega)
                    rcases (by omega : (is m < 0 ∧ 0 < (m : Int)) ∨ (is m < 0 ∧ (m : Int) < 1) ∨ (0 ≤ is m ∧ 0 < (m : Int)) ∨ (0 ≤ is m ∧ (m : Int) < 1)) with ⟨h0, hm0⟩ | ⟨h0, hm0⟩ | ⟨h0, hm0⟩ | ⟨h0, hm0⟩
                    · have heq : (sw.toList == (sl ++ ⟨#[46]⟩ ++ sr).toList) = true := by rw [HSW.out, HSL.out, HSR.out]; exact cut_dot ns is m n2 hmn (by omega) h0
                      go_wp2_with fail
                      go_cut [16] (fun s wr => s = .string (partT ns is m 1) ∧ St w' wr (some ⟨kb, off, none⟩) (some ⟨kb2, off2, none⟩) n2 ns is)
                      case first =>
                        go_region_with (first
                          | (go_at_call 7; refine (call7 w' _ (some ⟨kb, off, none⟩) (some ⟨kb2, off2, none⟩) n2 ns is (by omega) m 1 (by omega) _ _ _ _ hS7.drew (by intro _ k o h; cases h; first | rfl | simp) (by intro _ k o h; cases h; first | rfl | simp) 0).mono ?_; rintro e w5 ⟨p5, rfl, hP5, hS5⟩)
                          | (go_at_call 8; refine (call8 w' _ _ _ n2 ns is m 1 (by omega) (by omega) (by have := HB.out; omega) HI.out _ 0 (by omega) (by assumption) (by assumption)).mono ?_; rintro e w6 ⟨rfl, hS8⟩))
                        all_goals
                          go_wp2
                          go_meet
                          case rel => exact ⟨rfl, by assumption⟩
                      case rest =>
                        obtain ⟨rfl, hS8⟩ := hcut
                        have h1 := hS8.cellN hmn
                        have h2 := hS8.cellI hmn
                        clear hS7 hcm hnm heq
                        have heq2 := one_name ns is m h0
                        go_wp2
                        go_ret
                        exact ⟨rfl, hS8.below⟩
                    · have heq : (sw.toList == (sl ++ ⟨#[]⟩ ++ sr).toList) = true := by rw [HSW.out, HSL.out, HSR.out]; exact cut_bare ns is m n2 (by omega) (by omega)
                      go_wp2_with fail
                      go_cut [16] (fun s wr => s = .string (partT ns is m 1) ∧ St w' wr (some ⟨kb, off, none⟩) (some ⟨kb2, off2, none⟩) n2 ns is)
                      case first =>
                        go_region_with (first
                          | (go_at_call 7; refine (call7 w' _ (some ⟨kb, off, none⟩) (some ⟨kb2, off2, none⟩) n2 ns is (by omega) m 1 (by omega) _ _ _ _ hS7.drew (by intro _ k o h; cases h; first | rfl | simp) (by intro _ k o h; cases h; first | rfl | simp) 0).mono ?_; rintro e w5 ⟨p5, rfl, hP5, hS5⟩)
                          | (go_at_call 8; refine (call8 w' _ _ _ n2 ns is m 1 (by omega) (by omega) (by have := HB.out; omega) HI.out _ 0 (by omega) (by assumption) (by assumption)).mono ?_; rintro e w6 ⟨rfl, hS8⟩))
                        all_goals
                          go_wp2
                          go_meet
                          case rel => exact ⟨rfl, by assumption⟩
                      case rest =>
                        obtain ⟨rfl, hS8⟩ := hcut
                        have h1 := hS8.cellN hmn
                        have h2 := hS8.cellI hmn
                        clear hS7 hcm hnm heq
                        have heq2 := one_name ns is m h0
                        go_wp2
                        go_ret
                        exact ⟨rfl, hS8.below⟩
                    · have heq : (sw.toList == (sl ++ ⟨#[]⟩ ++ sr).toList) = true := by rw [HSW.out, HSL.out, HSR.out]; exact cut_bare ns is m n2 (by omega) (by omega)
                      go_wp2_with fail
                      go_cut [16] (fun s wr => s = .string (partT ns is m 1) ∧ St w' wr (some ⟨kb, off, none⟩) (some ⟨kb2, off2, none⟩) n2 ns is)
                      case first =>
                        go_region_with (first
                          | (go_at_call 7; refine (call7 w' _ (some ⟨kb, off, none⟩) (some ⟨kb2, off2, none⟩) n2 ns is (by omega) m 1 (by omega) _ _ _ _ hS7.drew (by intro _ k o h; cases h; first | rfl | simp) (by intro _ k o h; cases h; first | rfl | simp) 0).mono ?_; rintro e w5 ⟨p5, rfl, hP5, hS5⟩)
                          | (go_at_call 8; refine (call8 w' _ _ _ n2 ns is m 1 (by omega) (by omega) (by have := HB.out; omega) HI.out _ 0 (by omega) (by assumption) (by assumption)).mono ?_; rintro e w6 ⟨rfl, hS8⟩))
                        all_goals
                          go_wp2
                          go_meet
                          case rel => exact ⟨rfl, by assumption⟩
                      case rest =>
                        obtain ⟨rfl, hS8⟩ := hcut
                        have h1 := hS8.cellN hmn
                        have h2 := hS8.cellI hmn
                        clear hS7 hcm hnm heq
                        have him := HI.out m hmn
                        go_wp2_with fail
                        refine (itoa_any (is m) h0 him.2 _).mono ?_
                        rintro e w9 ⟨rfl, hb9⟩
                        have hds := Lib.itoa_length_le (is m) him.1 him.2
                        obtain ⟨d, hd⟩ : ∃ d : ByteArray, (⟨(Lib.itoa (is m)).toArray⟩ : ByteArray) = d := ⟨_, rfl⟩
                        have hsz : d.size ≤ 21 := by rw [← hd]; simpa [ByteArray.size] using hds
                        have heq2 := one_index ns is m h0 d hd
                        rw [hd]
                        clear hd hds
                        have hbr : ((⟨#[91]⟩ : ByteArray) ++ d).size = 1 + d.size := by rw [ByteArray.size_append]; rfl
                        go_wp2
                        go_ret
                        exact ⟨rfl, (hS8.on hb9).below⟩
                    · have heq : (sw.toList == (sl ++ ⟨#[]⟩ ++ sr).toList) = true := by rw [HSW.out, HSL.out, HSR.out]; exact cut_bare ns is m n2 (by omega) (by omega)
                      go_wp2_with fail
                      go_cut [16] (fun s wr => s = .string (partT ns is m 1) ∧ St w' wr (some ⟨kb, off, none⟩) (some ⟨kb2, off2, none⟩) n2 ns is)
                      case first =>
                        go_region_with (first
                          | (go_at_call 7; refine (call7 w' _ (some ⟨kb, off, none⟩) (some ⟨kb2, off2, none⟩) n2 ns is (by omega) m 1 (by omega) _ _ _ _ hS7.drew (by intro _ k o h; cases h; first | rfl | simp) (by intro _ k o h; cases h; first | rfl | simp) 0).mono ?_; rintro e w5 ⟨p5, rfl, hP5, hS5⟩)
                          | (go_at_call 8; refine (call8 w' _ _ _ n2 ns is m 1 (by omega) (by omega) (by have := HB.out; omega) HI.out _ 0 (by omega) (by assumption) (by assumption)).mono ?_; rintro e w6 ⟨rfl, hS8⟩))
                        all_goals
                          go_wp2
                          go_meet
                          case rel => exact ⟨rfl, by assumption⟩
                      case rest =>
                        obtain ⟨rfl, hS8⟩ := hcut
                        have h1 := hS8.cellN hmn
                        have h2 := hS8.cellI hmn
                        clear hS7 hcm hnm heq
                        have him := HI.out m hmn
                        go_wp2_with fail
                        refine (itoa_any (is m) h0 him.2 _).mono ?_
                        rintro e w9 ⟨rfl, hb9⟩
                        have hds := Lib.itoa_length_le (is m) him.1 him.2
                        obtain ⟨d, hd⟩ : ∃ d : ByteArray, (⟨(Lib.itoa (is m)).toArray⟩ : ByteArray) = d := ⟨_, rfl⟩
                        have hsz : d.size ≤ 21 := by rw [← hd]; simpa [ByteArray.size] using hds
                        have heq2 := one_index ns is m h0 d hd
                        rw [hd]
                        clear hd hds
                        have hbr : ((⟨#[91]⟩ : ByteArray) ++ d).size = 1 + d.size := by rw [ByteArray.size_append]; rfl
                        go_wp2
                        go_ret
                        exact ⟨rfl, (hS8.on hb9).below⟩
                  · obtain rfl : n2 = m := by omega
                    have heq : (sw.toList == (sl ++ ⟨#[]⟩ ++ sr).toList) = true := by rw [HSW.out, HSL.out, HSR.out]; exact cut_bare ns is n2 n2 (by omega) (by omega)
                    go_wp2
                    all_goals
                      go_ret
                      exact ⟨rfl, hS7.below⟩
            · rcases (by omega : k < 0 ∨ (0 ≤ k ∧ (n2 : Int) < k)) with hK | ⟨hK0, hK⟩
              · go_wp2
                go_ret
                exact ⟨rfl, Below.refl _ _⟩
              · go_wp2
                go_ret
                exact ⟨rfl, Below.refl _ _⟩
          · rcases (by omega : ln < 0 ∨ (0 ≤ ln ∧ 1048576 < ln)) with hK | ⟨hK0, hK⟩
            · go_wp2
              go_ret
              exact ⟨rfl, Below.refl _ _⟩
            · go_wp2
              go_ret
              exact ⟨rfl, Below.refl _ _⟩
        · have hE' : ((j : Int) == (n2 : Int)) = false := by simp; omega
          go_wp2
          go_ret
          exact ⟨rfl, Below.refl _ _⟩
  · rcases (by omega : 65536 < n ∨ (n ≤ 65536 ∧ 65536 < n2)) with hA | hA
    · go_wp2
      go_ret
      exact ⟨rfl, Below.refl _ _⟩
    · obtain ⟨hA1, hA2⟩ := hA
      go_wp2
      go_ret
      exact ⟨rfl, Below.refl _ _⟩
end Go.Proofs.Qxb6003658aDoor
