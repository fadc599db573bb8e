/-
  THE WALK OF (*Path).String.
-/
import Derived.Test.Qxb6003658aDoorWalkB
import Derived.Test.Qxb6003658aDoorPlain
import Derived.Test.Qxb6003658aDoorShelf
import Derived.Lib.AppendIntMem
import Derived.BigCall
namespace Go.Proofs.Qxb6003658aDoor
open Go.RowKit

theorem below_grow (w : World) (k : Nat) (os : Array Obj) : Below w.heap.size w (Sort.grow (w.drewN k) os) :=
  ⟨rfl, rfl, rfl, by simp, fun j hj => by rw [Sort.heap_grow_old _ _ (by simpa using hj)]; rfl⟩

theorem builderAtF_below {T e : TypeId} {B b : Nat} {p : Value} {bs : List Value} {w w' : World} (h : Lib.BuilderAtF T e B b p bs w) (hb : Below w.heap.size w w') : Lib.BuilderAtF T e B b p bs w' := by
  have hlt := h.lt
  obtain ⟨hB, v, hbk, hown, hne⟩ := h
  refine ⟨hB, v, (hb.block b hlt).trans hbk, ⟨hown.1, ?_⟩, hne⟩
  rcases hown.2 with hn | ⟨g, cap, cur, fz, hv, hbg, hg, rest⟩
  · exact .inl hn
  · exact .inr ⟨g, cap, cur, fz, hv, hbg, (hb.block g (Array.getElem?_eq_some_iff.1 hg).1).trans hg, rest⟩

theorem isBuilderF_below {T e : TypeId} {B b : Nat} {bs : List Value} {w w' : World} (h : Lib.IsBuilderF T e B b bs w) (hb : Below w.heap.size w w') : Lib.IsBuilderF T e B b bs w' :=
  h.elim (fun x => .inl (builderAtF_below x hb)) (fun x => .inr (builderAtF_below x hb))

theorem isBuilderF_lt {T e : TypeId} {B b : Nat} {bs : List Value} {w : World} (h : Lib.IsBuilderF T e B b bs w) : b < w.heap.size := h.elim (fun x => x.lt) (fun x => x.lt)

theorem fresh_block (w : World) (vs : Array Value) (t : TypeId) : (w.alloc (.cells vs t)).heap[w.heap.size]? = some (.cells vs t (0, 0)) := by
  show (w.heap.push _)[_]? = _
  simp

theorem bracket_size (d : ByteArray) : ((⟨#[91]⟩ : ByteArray) ++ d ++ ⟨#[93]⟩).size = d.size + 2 := by
  rw [ByteArray.size_append, ByteArray.size_append]
  show 1 + d.size + 1 = d.size + 2
  omega

theorem bracket_cells {l : List UInt8} {d : ByteArray} (h : (⟨l.toArray⟩ : ByteArray) = d) : Lib.strCells ((⟨#[91]⟩ : ByteArray) ++ d ++ ⟨#[93]⟩) = Lib.byteCells ([91] ++ l ++ [93]) := by
  subst h
  rw [Lib.strCells_eq]
  simp [ByteArray.data_append]

theorem rel_index (ns : Nat → ByteArray) (is : Nat → Int) (k : Nat) (h0 : 0 ≤ is k) {d : ByteArray} (h : (⟨(Lib.itoa (is k)).toArray⟩ : ByteArray) = d) :
    Lib.byteCells (pathT ns is k) ++ Lib.strCells ((⟨#[91]⟩ : ByteArray) ++ d ++ ⟨#[93]⟩) = Lib.byteCells (pathT ns is (k + 1)) := by
  rw [bracket_cells h, ← Lib.byteCells_append]
  simp only [pathT, stepT]
  rw [if_pos h0]

theorem rel_dot (ns : Nat → ByteArray) (is : Nat → Int) (k : Nat) (h0 : ¬ 0 ≤ is k) (hk : 0 < k) :
    Lib.byteCells (pathT ns is k) ++ [.int .u8 46] ++ Lib.strCells (ns k) = Lib.byteCells (pathT ns is (k + 1)) := by
  simp only [pathT, stepT]
  rw [if_neg h0, if_pos hk, Lib.byteCells_append, Lib.byteCells_append, Lib.strCells_eq, List.append_assoc]
  rfl

theorem rel_first (ns : Nat → ByteArray) (is : Nat → Int) (k : Nat) (h0 : ¬ 0 ≤ is k) (hk : ¬ 0 < k) :
    Lib.byteCells (pathT ns is k) ++ Lib.strCells (ns k) = Lib.byteCells (pathT ns is (k + 1)) := by
  simp only [pathT, stepT]
  rw [if_neg h0, if_neg hk, Lib.byteCells_append, Lib.strCells_eq]
  simp

set_option maxHeartbeats 800000 in
theorem pathString_any (p n ln : Nat) (ns : Nat → ByteArray) (is : Nat → Int) (w : World) (hP : PathAt w p n ln ns is) (hln : ln ≤ 1048576) (hn : n ≤ 65536) (ht : tot ns n ≤ 1048576) (hI : I64 is n)
    (htab : Lib.TabIs Tryd.prog w powName .u64 Lib.pow10Tab) :
    Calls Tryd.prog 8 #[.pointer (some ⟨p, 0, none⟩)] w fun e w' => e = .returned (.string ⟨(pathT ns is n).toArray⟩) ∧ Below w.heap.size w w' := by
  obtain ⟨g, hp, hg, hc0, hc1, hcs⟩ := hP
  have HT : Hid (Lib.TabBelow Tryd.prog w.heap.size w powName .u64 Lib.pow10Tab) := Lib.tabBelow_of_tabIs htab
  clear htab
  go_enter Tryd.func8, Tryd.ntmps8
  go_wp2_with fail
  refine (Tryd.Builder_Grow_fresh w.heap.size w.heap.size ln _ (Nat.le_refl _) (fresh_block _ _ _) (by simp) (by omega)).mono ?_
  rintro e w1 ⟨rfl, hB, hb1⟩
  have hbw : Below w.heap.size w w1 := ((Below.refl _ _).alloc (Nat.le_refl _) _).trans hb1
  have hc0' : w1.cell? ⟨p, 0, none⟩ = some (.slice (some ⟨g, 0, none⟩) n n) := (hbw.cell hp).trans hc0
  go_wp2
  go_loopw [16] (fun i wr => ∃ k : Nat, k ≤ n ∧ i = .int .i64 k ∧ Lib.IsBuilderF 39 5 w.heap.size w.heap.size (Lib.byteCells (pathT ns is k)) wr ∧ Below w.heap.size w wr) (fun i _ => n - (intOf i).toNat)
  case atStart => exact ⟨0, by omega, by go_num, Lib.IsBuilderF.of (.inr hB), hbw⟩
  case round =>
    obtain ⟨k, hk, rfl, hBr, hbr⟩ := hrel
    clear hc0' hB hb1 hbw hc0 hc1
    have hl := pathT_len ns is k (fun j hj => hI j (by omega))
    have htk := tot_le ns hk
    by_cases hlt : k < n
    · have hck : wr.cell? ⟨g, k * 2, none⟩ = some (.string (ns k)) := (hbr.cell hg).trans (hcs k hlt).1
      have hck1 : wr.cell? ⟨g, k * 2 + 1, none⟩ = some (.int .i64 (is k)) := (hbr.cell hg).trans (hcs k hlt).2
      have hik := hI k hlt
      have hts : (ns k).size ≤ 1048576 := by have := tot_le ns (show k + 1 ≤ n from hlt); simp only [tot] at this; omega
      have hbo : Below w.heap.size w (wr.alloc (.cells #[.string (ns k), .int .i64 (is k)] 33)) := hbr.alloc hbr.size _
      have hBo := hBr.alloc (.cells #[.string (ns k), .int .i64 (is k)] 33)
      by_cases h0 : 0 ≤ is k
      · go_wp2_with fail
        refine (Tryd.strconv_Itoa (is k) hik.1 hik.2 _ (HT.out _ hbo)).mono ?_
        rintro e w2 ⟨rfl, kk, os, hw2⟩
        have hb2 : Below w.heap.size w w2 := by rw [hw2]; exact hbo.trans ((below_grow _ kk os).mono hbo.size)
        have hB2 : Lib.IsBuilderF 39 5 w.heap.size w.heap.size (Lib.byteCells (pathT ns is k)) w2 := by rw [hw2]; exact isBuilderF_below hBo (below_grow _ kk os)
        clear hw2
        have hds := Lib.itoa_length_le (is k) hik.1 hik.2
        obtain ⟨d, hd⟩ : ∃ d : ByteArray, (⟨(Lib.itoa (is k)).toArray⟩ : ByteArray) = d := ⟨_, rfl⟩
        have hsz : d.size ≤ 21 := by rw [← hd]; simpa [ByteArray.size] using hds
        rw [hd]
        have HD : Hid ((⟨(Lib.itoa (is k)).toArray⟩ : ByteArray) = d) := hd
        clear hd hds
        have h1 : ((⟨#[91]⟩ : ByteArray) ++ d).size = 1 + d.size := by rw [ByteArray.size_append]; rfl
        go_wp2_with fail
        refine (Tryd.Builder_WriteString_k w.heap.size w.heap.size _ _ _ hB2 ?_ hb2.size).mono ?_
        · rw [Lib.byteCells_length, bracket_size]; omega
        rintro e w3 ⟨rfl, hB3, hb3, _⟩
        go_wp2
        go_roundw
        case rel => exact ⟨k + 1, by omega, by go_num, by rw [← rel_index ns is k h0 HD.out]; exact .inr hB3, hb2.trans hb3⟩
        case measure => simp [intOf]; omega
      · by_cases hk0 : 0 < k
        · go_wp2_with fail
          refine (Tryd.Builder_WriteByte_k w.heap.size w.heap.size _ 46 _ hBo (by rw [Lib.byteCells_length]; omega) hbo.size).mono ?_
          rintro e w2 ⟨rfl, hB2, hb2, hk2⟩
          have hst : w2.heap[wr.heap.size]? = some (.cells #[.string (ns k), .int .i64 (is k)] 33 (0, 0)) := hk2 _ _ (fresh_block _ _ _) (by simp; have := isBuilderF_lt hBr; omega) (by simp)
          have hcw : w2.cell? ⟨wr.heap.size, 0, none⟩ = some (.string (ns k)) := by simp [World.cell?, hst]
          go_wp2_with fail
          refine (Tryd.Builder_WriteString_k w.heap.size w.heap.size _ _ _ (.inr hB2) (by simp [Lib.byteCells_length]; omega) (hbo.trans hb2).size).mono ?_
          rintro e w3 ⟨rfl, hB3, hb3, _⟩
          go_wp2
          go_roundw
          case rel => exact ⟨k + 1, by omega, by go_num, by rw [← rel_dot ns is k (by omega) (by omega)]; exact .inr hB3, (hbo.trans hb2).trans hb3⟩
          case measure => simp [intOf]; omega
        · go_wp2_with fail
          refine (Tryd.Builder_WriteString_k w.heap.size w.heap.size _ _ _ hBo (by simp [Lib.byteCells_length]; omega) hbo.size).mono ?_
          rintro e w3 ⟨rfl, hB3, hb3, _⟩
          go_wp2
          go_roundw
          case rel => exact ⟨k + 1, by omega, by go_num, by rw [← rel_first ns is k (by omega) (by omega)]; exact .inr hB3, hbo.trans hb3⟩
          case measure => simp [intOf]; omega
    · go_wp2_with fail
      refine (Tryd.Builder_String_any_k w.heap.size w.heap.size _ _ hBr hbr.size).mono ?_
      rintro e w3 ⟨rfl, _, hb3, _⟩
      go_wp2
      go_ret
      obtain rfl : k = n := by omega
      exact ⟨rfl, hbr.trans hb3⟩
end Go.Proofs.Qxb6003658aDoor
