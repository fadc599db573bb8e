/-
  THE WALK OF parseStat.
-/
import Derived.Test.Qxb6600948aDoorWalkB
import Derived.Test.Qxb6600948aDoorPlain
import Derived.Test.Qxb6600948aDoorShelf
import Derived.Lib.AppendIntMem
import Derived.BigQuiet
import Derived.Deep.QuietTactic
namespace Go.Proofs.Qxb6600948aDoor
open Go.RowKit

/-- A text as a Go string. -/
def txt (l : List UInt8) : ByteArray := ⟨l.toArray⟩

theorem txt_size (l : List UInt8) : (txt l).size = l.length := by simp [txt, ByteArray.size]
theorem txt_list (l : List UInt8) : (txt l).data.toList = l := by simp [txt]

theorem below_bytes (w : World) (e : TypeId) (s : ByteArray) : Below w.heap.size w (Lib.bytesWorld w e s) :=
  ⟨rfl, rfl, rfl, by simp [Lib.bytesWorld, World.freeze], fun k hk => Lib.bytesWorld_at_old w e s k hk⟩

theorem atoi_call (x : Int) (h0 : -9223372036854775808 ≤ x) (h1 : x ≤ 9223372036854775807) (w : World) :
    Calls Tryd.prog 20 #[.string (txt (Lib.itoa x))] w fun e w' => e = .returned (.tuple #[.int .i64 x, .nilIface]) ∧ Below w.heap.size w w' := by
  have hl := Lib.itoa_length_le x h0 h1
  refine (Tryd.strconv_Atoi_ok (txt (Lib.itoa x)) (by rw [txt_size]; omega) x (by rw [txt_list]; exact atoi_itoa x h0 h1) w).mono ?_
  rintro e w' ⟨rfl, h | ⟨t, h⟩⟩
  · subst h; exact ⟨rfl, Below.refl _ _⟩
  · subst h; exact ⟨rfl, below_bytes _ _ _⟩

theorem parse_call (u : Nat) (hu : u < 18446744073709551616) (w : World) :
    Calls Tryd.prog 21 #[.string (txt (Lib.decDigits u)), .int .i64 10, .int .i64 64] w fun e w' => e = .returned (.tuple #[.int .u64 u, .nilIface]) ∧ Below w.heap.size w w' := by
  have hl := Lib.nDigits_le20 u hu
  refine (Tryd.strconv_ParseUint_10_at64_ok (txt (Lib.decDigits u)) (by rw [txt_size, Lib.decDigits_length]; omega) u (by rw [txt_list]; exact parseUint_dec u hu) w).mono ?_
  rintro e w' ⟨rfl, h | h⟩
  · subst h; exact ⟨rfl, Below.refl _ _⟩
  · subst h; exact ⟨rfl, below_bytes _ _ _⟩

/-- The tables that strings.Fields reads. -/
structure Tabs (w : World) : Prop where
  ascii : Lib.TabIs Tryd.prog w "strings.asciiSpace" .u8 Lib.asciiSpaceTab
  white : Lib.WhiteTab 2 w

theorem Tabs.on {w w' : World} (h : Tabs w) (hb : Below w.heap.size w w') : Tabs w' := by
  refine ⟨Lib.tabBelow_of_tabIs h.ascii _ hb, ?_⟩
  obtain ⟨T, oT, R, oR, h1, h2, h3, h4, h5⟩ := h.white
  have hR := h5 0 (by omega)
  refine ⟨T, oT, R, oR, (hb.cell (block_lt_of_cell h1)).trans h1, (hb.cell (block_lt_of_cell h2)).trans h2, (hb.cell (block_lt_of_cell h3)).trans h3, (hb.cell (block_lt_of_cell h4)).trans h4, fun i hi => (hb.cell (block_lt_of_cell (h5 i hi))).trans (h5 i hi)⟩

theorem fields_call (l : List UInt8) (w : World) (hl : l.length < 4294967281) (ht : Tabs w) (fs : List (List UInt8)) (hfs : Lib.fieldsD l = fs) :
    Calls Tryd.prog 19 #[.string (txt l)] w fun e w' => ∃ A, e = .returned (.slice (some ⟨A, 0, none⟩) fs.length fs.length) ∧ A < w'.heap.size ∧ (∀ j x, fs[j]? = some x → w'.cell? ⟨A, j, none⟩ = some (.string (txt x))) ∧ Below w.heap.size w w' := by
  refine (Tryd.strings_Fields_any (txt l) w (by rw [txt_size]; exact hl) ht.ascii ht.white).mono ?_
  rintro e w' ⟨A, rfl, hA, hown, hb⟩
  rw [txt_list, hfs] at hown ⊢
  have hlt : A < w'.heap.size := by
    rcases hown.2 with ⟨h', _⟩ | ⟨g', cap', cur, h', hb, hg, _⟩
    · simp at h'
    · simp only [Value.slice.injEq, Option.some.injEq, Addr.mk.injEq, and_true, true_and] at h'
      obtain ⟨rfl, rfl⟩ := h'
      exact (Array.getElem?_eq_some_iff.1 hg).1
  refine ⟨A, rfl, hlt, fun j x hj => ?_, hb⟩
  have hj' : j < fs.length := (List.getElem?_eq_some_iff.1 hj).1
  rw [hown.cellAt j (by omega)]
  simp only [List.getElem?_map, hj, Option.map_some]
  rfl

theorem conv_call (W : World) (b o n cap : Nat) (l : List UInt8) (hn : l.length = n) (hc : ∀ j (hj : j < l.length), W.cell? ⟨b, o + j, none⟩ = some (.int .u8 (l[j].toNat : Int))) :
    (convert 22 9 (.slice (some ⟨b, o, none⟩) n cap)).run Tryd.prog W = .ok (.string (txt l)) W := by
  subst hn
  refine run_convert_bytes_back _ 22 9 5 _ cap l Tryd.underlying22 Tryd.underlying5 Tryd.underlying9 fun j hj => ?_
  have hadd : (⟨b, o, none⟩ : Addr).add j = ⟨b, o + j, none⟩ := by unfold Addr.add; split <;> simp_all
  rw [hadd]
  exact hc j hj

theorem cell_blk {w : World} {b : Nat} {vs : Array Value} {t : TypeId} (h : w.heap[b]? = some (.cells vs t (0, 0))) (i : Nat) (v : Value) (hv : vs[i]? = some v) : w.cell? ⟨b, i, none⟩ = some v ∧ w.frozen? ⟨b, i, none⟩ = false := by
  constructor
  · show (match w.heap[b]? with | some (.cells c _ _) => c[i]? | _ => none) = _
    rw [h]
    exact hv
  · simp [World.frozen?, h]

set_option maxHeartbeats 800000 in
set_option maxRecDepth 100000 in
theorem parseStat_any (pid ppid pgid : Int) (state : UInt8) (start : Nat) (T : List UInt8) (fs : List (List UInt8)) (b off n c p : Nat) (f : Nat → UInt8) (w : World)
    (hn : n ≤ 1073741824) (hnc : n ≤ c) (hcm : c ≤ maxLen) (hb : b < w.heap.size) (hc : ∀ j, j < n → w.cell? ⟨b, off + j, none⟩ = some (.int .u8 ((f j).toNat : Int)))
    (hT : n = p + 1 + T.length) (hTn : 0 < T.length) (hf : ∀ j (hj : j < T.length), f (p + 1 + j) = T[j]) (h41 : f p = 41) (hno : ∀ x ∈ T, x ≠ 41)
    (hfs : Lib.fieldsD T = fs) (h20 : 20 ≤ fs.length) (hf0 : fs[0]? = some [state]) (hf1 : fs[1]? = some (Lib.itoa ppid)) (hf2 : fs[2]? = some (Lib.itoa pgid)) (hf19 : fs[19]? = some (Lib.decDigits start))
    (hp1 : -9223372036854775808 ≤ ppid) (hp2 : ppid ≤ 9223372036854775807) (hg1 : -9223372036854775808 ≤ pgid) (hg2 : pgid ≤ 9223372036854775807) (hst : start < 18446744073709551616) (htab : Tabs w) :
    Calls Tryd.prog 17 #[.int .i64 pid, .slice (some ⟨b, off, none⟩) n c] w fun e w' => e = .returned (.tuple #[.agg #[.int .i64 pid, .int .i64 ppid, .int .i64 pgid, .int .u8 (state.toNat : Int), .int .u64 start], .bool true]) ∧ Below w.heap.size w w' := by
  unfold maxLen at hcm
  have hb0 : Below w.heap.size w (w.alloc (.cells #[.int .i64 0, .int .i64 0, .int .i64 0, .int .u8 0, .int .u64 0] 37)) := (Below.refl _ _).alloc (Nat.le_refl _) _
  have ht0 := htab.on hb0
  have hlast := last_any b off n c p f _ hn (fun j hj => (hb0.cell hb).trans (hc j hj)) (by omega) h41 (fun j h1 h2 => by
    have := hf (j - (p + 1)) (by omega)
    rw [show p + 1 + (j - (p + 1)) = j by omega] at this
    rw [this]
    exact hno _ (List.getElem_mem _))
  have hconv := conv_call (w.alloc (.cells #[.int .i64 0, .int .i64 0, .int .i64 0, .int .u8 0, .int .u64 0] 37)) b (off + (p + 1)) (n - (p + 1)) (c - (p + 1)) T (by omega) (fun j hj => by
    have := hf j hj
    rw [← this, show off + (p + 1) + j = off + (p + 1 + j) by omega]
    exact (hb0.cell hb).trans (hc (p + 1 + j) (by omega)))
  have hpn : p + 1 < n := by omega
  have hTl : T.length < 4294967281 := by omega
  have HF : Hid (Lib.fieldsD T = fs) := hfs
  have HF0 : Hid (fs[0]? = some [state]) := hf0
  have HF1 : Hid (fs[1]? = some (Lib.itoa ppid)) := hf1
  have HF2 : Hid (fs[2]? = some (Lib.itoa pgid)) := hf2
  have HF19 : Hid (fs[19]? = some (Lib.decDigits start)) := hf19
  have hne : ¬ (c = p + 1) := by omega
  have hpc : (p : Int) + 1 ≤ (n : Int) := by omega
  clear hT hf h41 hno hfs hf0 hf1 hf2 hf19 hc
  have HL : Hid (Calls Tryd.prog 18 #[.slice (some ⟨b, off, none⟩) n c, .int .u8 41] (w.alloc (.cells #[.int .i64 0, .int .i64 0, .int .i64 0, .int .u8 0, .int .u64 0] 37)) fun e w' => e = .returned (.int .i64 p) ∧ w' = (w.alloc (.cells #[.int .i64 0, .int .i64 0, .int .i64 0, .int .u8 0, .int .u64 0] 37))) := hlast
  clear hlast
  go_enter Tryd.func17, Tryd.ntmps17
  go_wp2_with fail
  refine HL.out.mono ?_
  rintro e w1 ⟨rfl, rfl⟩
  go_wp2_with fail
  refine (fields_call T _ hTl ht0 fs HF.out).mono ?_
  rintro e w2 ⟨A, rfl, hA2, hcells, hb2⟩
  have hz2 : w.heap.size + 1 ≤ w2.heap.size := by have := hb2.size; simpa using this
  have hblk2 : w2.heap[w.heap.size]? = some (.cells #[.int .i64 0, .int .i64 0, .int .i64 0, .int .u8 0, .int .u64 0] 37 (0, 0)) := (hb2.block _ (by simp)).trans (fresh_block _ _ _)
  have hbw2 : Below w.heap.size w w2 := hb0.trans (hb2.mono (by simp))
  have c0 := hcells 0 _ HF0.out
  have c1 := hcells 1 _ HF1.out
  have c2 := hcells 2 _ HF2.out
  have c19 := hcells 19 _ HF19.out
  have hl20 : (20 : Int) ≤ (fs.length : Int) := by omega
  clear hcells hb2 ht0 hb0 htab HF HF0 HF1 HF2 HF19 HL hconv
  go_wp2_with fail
  refine (atoi_call ppid hp1 hp2 w2).mono ?_
  rintro e w3 ⟨rfl, hb3⟩
  have c0' := (hb3.cell (p := ⟨A, 0, none⟩) hA2).trans c0
  have c2' := (hb3.cell (p := ⟨A, 2, none⟩) hA2).trans c2
  have c19' := (hb3.cell (p := ⟨A, 19, none⟩) hA2).trans c19
  have hA3 : A < w3.heap.size := Nat.lt_of_lt_of_le hA2 hb3.size
  have hblk3 := (hb3.block w.heap.size (by omega)).trans hblk2
  have hbw3 := hbw2.trans (hb3.mono (Nat.le_trans (Nat.le_succ _) hz2))
  have hz3 : w.heap.size + 1 ≤ w3.heap.size := Nat.le_trans hz2 hb3.size
  clear c0 c1 c2 c19 hA2 hblk2 hbw2 hz2 hb3
  go_wp2_with fail
  refine (atoi_call pgid hg1 hg2 w3).mono ?_
  rintro e w4 ⟨rfl, hb4⟩
  have c0 := (hb4.cell (p := ⟨A, 0, none⟩) hA3).trans c0'
  have c19 := (hb4.cell (p := ⟨A, 19, none⟩) hA3).trans c19'
  have hA4 : A < w4.heap.size := Nat.lt_of_lt_of_le hA3 hb4.size
  have hblk4 := (hb4.block w.heap.size (by omega)).trans hblk3
  have hbw4 := hbw3.trans (hb4.mono (Nat.le_trans (Nat.le_succ _) hz3))
  have hz4 : w.heap.size + 1 ≤ w4.heap.size := Nat.le_trans hz3 hb4.size
  clear c0' c2' c19' hA3 hblk3 hbw3 hz3 hb4
  go_wp2_with fail
  refine (parse_call start hst w4).mono ?_
  rintro e w5 ⟨rfl, hb5⟩
  have c0' := (hb5.cell (p := ⟨A, 0, none⟩) hA4).trans c0
  have hblk5 := (hb5.block w.heap.size (by omega)).trans hblk4
  have hbw5 := hbw4.trans (hb5.mono (Nat.le_trans (Nat.le_succ _) hz4))
  clear c0 c19 hA4 hblk4 hbw4 hz4 hb5
  obtain ⟨k0, z0⟩ := cell_blk hblk5 0 _ rfl
  obtain ⟨k1, z1⟩ := cell_blk hblk5 1 _ rfl
  obtain ⟨k2, z2⟩ := cell_blk hblk5 2 _ rfl
  obtain ⟨k3, z3⟩ := cell_blk hblk5 3 _ rfl
  obtain ⟨k4, z4⟩ := cell_blk hblk5 4 _ rfl
  clear hblk5
  have hsz : (txt [state]).size = 1 := rfl
  have hby : ((txt [state])[0]'(by rw [hsz]; omega)) = state := rfl
  go_wp2
  refine bodyPost_ret (v := .tuple #[.agg #[.int .i64 pid, .int .i64 ppid, .int .i64 pgid, .int .u8 (state.toNat : Int), .int .u64 start], .bool true]) (by simp [results, Tryd.results17, go_sem, k0, k1, k2, k3, k4]) rfl ⟨rfl, ?_⟩
  exact ((((hbw5.setCell (by simp) _).setCell (by simp) _).setCell (by simp) _).setCell (by simp) _).setCell (by simp) _
end Go.Proofs.Qxb6600948aDoor
