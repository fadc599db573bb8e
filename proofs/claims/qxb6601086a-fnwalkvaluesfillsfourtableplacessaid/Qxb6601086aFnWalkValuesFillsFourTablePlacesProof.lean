/-
  THE PROOF OF 'Rows.FnWalkValuesFillsFourTablePlacesSaid': the kit's shell (proof-skeleton.mjs) for this function, its hole filled; its end stands over 'Below'.
-/
import Derived.Test.Qxb6601086aRows
import Derived.Test.Qxb6601086aPieces
import Derived.WalkKit
import Derived.ProofKit
import Derived.OpenShut
import Derived.ShutString
namespace Go.Proofs.Qxb6601086a.fnWalkValuesFillsFourTablePlaces
open Go.ChangeShapes Go.WideShapes Go.ChangeAt Go.RowKit
open Go.ChangeMaps (open_string shut_string)
set_option linter.unusedVariables false      -- a walk need not use every 'w<i>' (that an integer argument fits its kind)

theorem own : ownKnob Try.prog.godebug = none := by kernel_rfl

/-! ### THE WALK -/
theorem zz_any (a : ByteArray) (ha : a.size ≤ maxLen) (w : World) : Calls Try.prog 6 #[.string a] w fun e w' => RetB e ∧ w' = w := by
  unfold maxLen at *
  go_enter Try.func6, Try.ntmps6
  go_wp2
  all_goals
    go_ret
    exact ⟨⟨_, rfl⟩, rfl⟩

/-- The loop's state: acc is written; what is left of the empty day's statement gives the rest. -/
structure Inv (w wr : World) (E day : List UInt8) (T : List UInt8) (v : Value) (h i : Nat) : Prop where
  le : i ≤ 838
  own : ∃ acc f, Own w.heap.size wr v acc ∧ 838 ≤ i + f ∧ acc ++ out day (pcs f (E.drop i)) = T ∧ h + (pcs f (E.drop i)).length = 5
  bel : Below w.heap.size w wr

theorem own_shape {B : Nat} {w : World} {v : Value} {l : List UInt8} (h : Own B w v l) (hl : l ≠ []) : ∃ g c, v = .slice (some ⟨g, 0, none⟩) l.length c ∧ ∀ j (hj : j < l.length), w.cell? ((⟨g, 0, none⟩ : Addr).add j) = some (.int .u8 (l[j].toNat : Int)) := by
  rcases h.2 with ⟨_, h0⟩ | ⟨g, cap, cur, rfl, hb, hg, h1, h2, _⟩
  · exact absurd (List.length_eq_zero_iff.1 h0) hl
  · refine ⟨g, cap, rfl, fun j hj => ?_⟩
    have hadd : (⟨g, 0, none⟩ : Addr).add j = ⟨g, j, none⟩ := by unfold Addr.add; split <;> simp_all
    rw [hadd, World.ownsRow.cellAt h j (by omega)]
    simp [Lib.byteCells, hj]

theorem step_other {E day T acc : List UInt8} {i f h : Nat} (hi : i < E.length) (hat : isAt E i pat = false) (hacc : acc ++ out day (pcs (f + 1) (E.drop i)) = T) (hcnt : h + (pcs (f + 1) (E.drop i)).length = 5) :
    acc ++ [E[i]] ++ out day (pcs f (E.drop (i + 1))) = T ∧ h + (pcs f (E.drop (i + 1))).length = 5 := by
  have hat' : ((E.drop i).take 7 == pat) = false := hat
  rw [List.drop_eq_getElem_cons hi] at hacc hcnt hat'
  obtain ⟨h1, h2⟩ := pcs_other day f _ _ hat'
  rw [h1] at hacc
  rw [h2] at hcnt
  exact ⟨by rw [← hacc]; simp, hcnt⟩

theorem step_hole {E day T acc : List UInt8} {i f h : Nat} (hat : isAt E i pat = true) (hacc : acc ++ out day (pcs (f + 1) (E.drop i)) = T) (hcnt : h + (pcs (f + 1) (E.drop i)).length = 5) :
    acc ++ lead ++ day ++ trail ++ out day (pcs f (E.drop (i + 7))) = T ∧ h + 1 + (pcs f (E.drop (i + 7))).length = 5 := by
  have hat' : ((E.drop i).take 7 == pat) = true := hat
  obtain ⟨h1, h2⟩ := pcs_hole day f _ hat'
  rw [h1, List.drop_drop] at hacc
  rw [h2, List.drop_drop] at hcnt
  exact ⟨by rw [← hacc]; simp, by omega⟩

theorem hole_room {E : List UInt8} {i : Nat} (hat : isAt E i pat = true) : i + 7 ≤ E.length := by
  have hat' : ((E.drop i).take 7 == pat) = true := hat
  rw [beq_iff_eq] at hat'
  have := congrArg List.length hat'
  simp [pat] at this
  omega

set_option maxHeartbeats 2000000 in
set_option maxRecDepth 100000 in
theorem walk (a0 : ByteArray) (w0 : a0.size ≤ maxLen) (w : World) :
    Calls Try.prog 3 #[.string a0] w fun e w' => e = .returned (.bool true) ∧ Below w.heap.size w w' := by
  obtain ⟨k, hk⟩ : ∃ k, IsK k := ⟨_, rfl⟩
  go_enter Try.func3, Try.ntmps3
  go_wp2_with fail
  refine (zz_any a0 w0 w).mono ?_
  rintro e w' ⟨⟨b, rfl⟩, rfl⟩
  unfold maxLen at w0
  cases b
  · go_wp2
    go_ret
    exact ⟨rfl, Below.refl _ _⟩
  by_cases hA : a0.size ≤ 65536
  case neg =>
    go_wp2
    go_ret
    exact ⟨rfl, Below.refl _ _⟩
  have H0 := zzWalk_any k hk ⟨#[]⟩ (by decide) w'
  have H1 := zzWalk_any k hk a0 hA w'
  have hz1 := wv_size hk a0
  have hz0 := wv_size hk ⟨#[]⟩
  have hO := out_whole hk a0
  obtain ⟨E, hE⟩ : ∃ E, E = wv k ⟨#[]⟩ := ⟨_, rfl⟩
  obtain ⟨G, hG⟩ : ∃ G, G = wv k a0 := ⟨_, rfl⟩
  rw [← hE] at H0 hz0 hO
  rw [← hG] at H1 hz1 hO
  have hz0' : E.size = 838 := hz0
  have HO : Hid (out a0.data.toList (pcs 838 E.data.toList) = G.data.toList ∧ (pcs 838 E.data.toList).length = 5) := hO
  have HGL : Hid (G.data.toList.length = 838 + 4 * a0.size) := hz1
  clear hE hG hk hz0 hO
  obtain ⟨i0, hi, hzz, hz2, hz3⟩ := info_parts info5
  go_wp2_with fail
  refine H0.mono ?_
  rintro e w2 ⟨rfl, rfl⟩
  go_wp2_with fail
  refine H1.mono ?_
  rintro e w3 ⟨rfl, rfl⟩
  clear H0 H1
  go_wp2_with (at_make; refine wpList_make_own _ rfl _ _ 24 rfl w3.heap.size 5 i0 (.int .u8 0) 1 Try.underlying24 hi hzz hz2 .i64 .i64 _ (838 + 4 * a0.size) rfl rfl (by omega) (by rw [hz3]; omega) (by unfold maxLen; omega) (Nat.le_refl _) ?_; intro w4 hown hgrow)
  have hInv : Inv w3 w4 E.data.toList a0.data.toList G.data.toList (.slice (some ⟨w3.heap.size, 0, none⟩) 0 (838 + 4 * a0.size)) 0 0 :=
    ⟨by omega, ⟨[], 838, hown, by omega, by rw [List.drop_zero, List.nil_append]; exact HO.out.1, by rw [List.drop_zero, HO.out.2]⟩, (Below.refl _ _).grown hgrow (Nat.le_refl _) (fun k hk => by cases hk)⟩
  clear hown hgrow hi hzz hz2 hz3
  go_loopw [5, 6, 7] (fun v x y wr => ∃ h i : Nat, x = .int .i64 h ∧ y = .int .i64 i ∧ Inv w3 wr E.data.toList a0.data.toList G.data.toList v h i) (fun _ _ y _ => 838 - (intOf y).toNat)
  case atStart => exact ⟨0, 0, by go_num, by go_num, hInv⟩
  case round =>
    obtain ⟨h, i, rfl, rfl, hI⟩ := hrel
    clear hInv
    obtain ⟨hle, ⟨acc, f, ho, hf, hacc, hcnt⟩, hbel⟩ := hI
    have hal : acc.length ≤ 838 + 4 * a0.size := by rw [← HGL.out, ← hacc]; simp
    have hsz3 := hbel.size
    have HACC : Hid (acc ++ out a0.data.toList (pcs f (E.data.toList.drop i)) = G.data.toList) := hacc
    have HCNT : Hid (h + (pcs f (E.data.toList.drop i)).length = 5) := hcnt
    have hh : h ≤ 5 := by omega
    clear hacc hcnt
    by_cases hlt : i < 838
    · obtain ⟨f', rfl⟩ : ∃ f', f = f' + 1 := ⟨f - 1, by omega⟩
      have hil : i < E.size := by omega
      go_wp2_with fail
      refine (hasAt_any E ⟨#[70, 82, 79, 77, 32, 32, 109]⟩ i (by omega) (by decide) (by decide) (by omega) _).mono ?_
      rintro e w5 ⟨rfl, q, hw5⟩
      have ho5 : Own w3.heap.size w5 u5 acc := by rw [hw5]; exact ho
      have hb5 : Below w3.heap.size w3 w5 := by rw [hw5]; exact ⟨hbel.os, hbel.tape, hbel.output, hbel.size, hbel.block⟩
      clear hw5 ho hbel hsz3
      have hs5 := hb5.size
      cases hat : isAt E.data.toList i (⟨#[70, 82, 79, 77, 32, 32, 109]⟩ : ByteArray).data.toList
      · have HAT : Hid (isAt E.data.toList i (⟨#[70, 82, 79, 77, 32, 32, 109]⟩ : ByteArray).data.toList = false) := hat
        clear hat
        go_wp2_with (at_builtin; refine wpList_app rfl (.tmp 42) (.tmp 46) rfl w3.heap.size _ acc rfl (ho5.alloc _) _ _ _ [E[i]] rfl rfl (one_cells w5 #[.int .u8 ((E[i]).toNat : Int)] [E[i]] rfl) (by simp; omega) (by simp; omega) ?_; intro v6 w6 ho6 hb6)
        go_roundw
        case rel =>
          have st := step_other (i := i) (show i < E.data.toList.length from hil) HAT.out HACC.out HCNT.out
          exact ⟨h, i + 1, rfl, by go_num, by omega, ⟨acc ++ [E[i]], f', ho6, by omega, st.1, st.2⟩, (hb5.alloc hs5 _).trans hb6⟩
        case measure => simp [intOf]; omega
      · have HAT : Hid (isAt E.data.toList i (⟨#[70, 82, 79, 77, 32, 32, 109]⟩ : ByteArray).data.toList = true) := hat
        clear hat
        go_wp2_with fail
        refine (appendText_any w3.heap.size u5 acc ⟨#[70, 82, 79, 77, 32]⟩ w5 ho5 hs5 (by omega) (by decide)).mono ?_
        rintro e w6 ⟨v6, rfl, ho6, hb6⟩
        have hs6 : w3.heap.size ≤ w6.heap.size := Nat.le_trans hs5 hb6.size
        have hl5 : (⟨#[70, 82, 79, 77, 32]⟩ : ByteArray).data.toList.length = 5 := rfl
        go_wp2_with fail
        refine (appendText_any w3.heap.size v6 _ a0 w6 ho6 hs6 (by rw [List.length_append, hl5]; omega) (by omega)).mono ?_
        rintro e w7 ⟨v7, rfl, ho7, hb7⟩
        have hs7 : w3.heap.size ≤ w7.heap.size := Nat.le_trans hs6 hb7.size
        have hl6 : a0.data.toList.length = a0.size := rfl
        go_wp2_with fail
        refine (appendText_any w3.heap.size v7 _ ⟨#[32, 109]⟩ w7 ho7 hs7 (by rw [List.length_append, List.length_append, hl5, hl6]; omega) (by decide)).mono ?_
        rintro e w8 ⟨v8, rfl, ho8, hb8⟩
        have hbw := ((hb5.trans hb6).trans hb7).trans hb8
        have hi7 : i + 7 ≤ 838 := by have h1 := hole_room HAT.out; have h2 : E.data.toList.length = E.size := rfl; omega
        clear hl5 hl6 hs6 hs7 ho5 ho6 ho7
        go_wp2
        go_roundw
        case rel =>
          have st := step_hole HAT.out HACC.out HCNT.out
          exact ⟨h + 1, i + 7, by go_num, by go_num, hi7, ⟨_, f', ho8, by omega, st.1, st.2⟩, hbw⟩
        case measure => simp [intOf]; omega
    · obtain rfl : i = 838 := by omega
      have hnil : E.data.toList.drop 838 = [] := List.drop_eq_nil_of_le (by have h2 : E.data.toList.length = E.size := rfl; omega)
      have hA1 := HACC.out
      have hC1 := HCNT.out
      rw [hnil, pcs_nil] at hA1 hC1
      have hacc : acc = G.data.toList := by simpa [out] using hA1
      obtain rfl : h = 4 := by simp at hC1; omega
      have hlen : acc.length = 838 + 4 * a0.size := by rw [hacc]; exact HGL.out
      obtain ⟨g, c, rfl, hcells⟩ := own_shape ho (by intro e; rw [e] at hlen; simp at hlen; omega)
      have hconv := run_convert_bytes_back wr 24 9 5 ⟨g, 0, none⟩ c acc Try.underlying24 Try.underlying5 Try.underlying9 hcells
      have heq : (acc == G.toList) = true := by rw [ByteArray.toList_eq, hacc]; simp
      have HL : Hid (acc.length = 838 + 4 * a0.size) := hlen
      clear hnil hA1 hC1 hacc hlen hcells HACC HCNT ho
      go_wp2
      go_ret
      exact ⟨rfl, hbel⟩

/-! ### THE ROW's STEP: WRITTEN OUT: LEAVE IT -/
set_option maxRecDepth 100000 in
theorem lifted (os : Os) (started : os.Started) (H : Type) (enc : TypeId × Value → H) :
    ReturnsInHanded {} Try.checked os 3 .any (Rows.fnWalkValuesFillsFourTablePlacesSpec.pre6 enc Try.prog Try.f3 Rows.fnWalkValuesFillsFourTablePlacesRow.domain false) (Rows.fnWalkValuesFillsFourTablePlacesSpec.post enc Try.prog Try.f3 false true false false) := by
  refine returnsInHanded_of_change (C := Try.checked) own started (by kernel_rfl) Try.func3
    (ChangeSpec.witness6 (enc := enc) (C := Try.checked) false ⟨#[], #[.string ByteArray.empty], []⟩ 8 (by kernel_rfl) (by kernel_rfl) (by kernel_rfl) (by kernel_rfl)) ?_
  intro W base args ds gs before hval0 hW hcnd _
  have hval : ∀ (j : Nat) t v, Try.f3.params[j]? = some t → args[j]? = some v → Value.okWide Try.prog W .any base t v := hval0
  have hW' := hW
  obtain ⟨p, q, hA0, hV, rfl, hfz, hnd⟩ := hW
  have hA : DataW.TrodAll enc Try.prog W 0 (fun _ => true) true Try.f3.params.toList args.toList ds p := hA0
  rw [Try.params3] at hA hval
  obtain ⟨v0, vs0, d0, ds0, p0, q0, hargs, rfl, rfl, h0, r0⟩ := trodAll_cons hA
  obtain ⟨rfl, rfl, rfl⟩ := trodAll_nil r0
  obtain rfl : args = #[v0] := by cases args; simp_all
  obtain ⟨rfl, rfl⟩ := trodVars_none hV
  obtain ⟨a0, rfl, rfl, rfl, w0⟩ := open_string Try.underlying9 (hval 0 9 v0 rfl rfl) h0
  clear hA0 hval0
  simp only [List.append_nil] at hW'
  refine (walk a0 w0 W).mono fun e W' ⟨he, bel⟩ => ?_
  subst he
  exact ⟨_, rfl, _, _, _, [], [], [], hW', trodAll_mk1 (shut_bool Try.underlying4 _), (trodAll_cons_mk (shut_string Try.underlying9 w0) trodAll_mk0), rfl, bel.frame _, fun h => by cases h⟩

theorem over : Rows.fnWalkValuesFillsFourTablePlacesRow.holds Try.pinned (OpenSpec.ofChange Rows.fnWalkValuesFillsFourTablePlacesSpec) :=
  OpenClaim.holds_of_wide 3 Try.f3 rfl rfl rfl rfl rfl rfl rfl ⟨rfl, rfl, rfl, rfl, rfl⟩ rfl rfl rfl rfl rfl (by kernel_rfl) Try.func3 (by kernel_rfl)
    (of_decide_eq_true (by kernel_rfl)) (by unfold Func.isWrapper; first | (rw [if_pos (by decide +kernel)]; kernel_rfl) | (rw [if_neg (by decide +kernel)]; exact ⟨rfl, rfl⟩))
    (fun os started H enc _ => lifted os started H enc)

/-- ████ THE STATEMENT ████ -/
theorem proved : Rows.FnWalkValuesFillsFourTablePlacesSaid :=
  over
#print axioms proved
end Go.Proofs.Qxb6601086a.fnWalkValuesFillsFourTablePlaces
