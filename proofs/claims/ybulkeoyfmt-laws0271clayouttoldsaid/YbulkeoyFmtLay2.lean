import Derived.Test.YbulkeoyFmtLay
namespace Go.Proofs.YbulkeoyFmt.lawS0271CLayout
open Go.RowKit Go.Extern.Stop Go.Stop Go.Extern

set_option maxRecDepth 100000 in
set_option maxHeartbeats 8000000 in
theorem walk_even (F : Interp) (a0 : ByteArray) (a1 : Int) (a2 : ByteArray) (a3 a4 : Int) (h0 : a0.size ≤ 1024) (h2 : a2.size ≤ 1024) (b1 : 0 ≤ a1 ∧ a1 ≤ 255) (b3 : 0 ≤ a3 ∧ a3 ≤ 255) (hpar : (a3 % 2 == 0) = true) (w : World) (hF : F.answers w.tape) :
    Calls Ybaf.prog 3 #[.string a0, .int .u8 a1, .string a2, .int .u8 a3, .int .u32 a4] w fun e w' => e = .returned (.bool true) ∧ Below w.heap.size w w' := by
  have HF : Hid _ := hF
  clear hF
  obtain ⟨i0, hi, hz0, hz1, hz2⟩ := info_parts Ybaf.info5
  have hpm := padTo_mul 0 (a0.size + 5)
  have d0 : decide (1024 < (a0.size : Int)) = false := by simp; omega
  have d2 : decide (1024 < (a2.size : Int)) = false := by simp; omega
  have hand := and_l1 a0 h0
  obtain ⟨p, hpe⟩ : ∃ p, p = padTo 0 (a0.size + 5) := ⟨_, rfl⟩
  have hp : p < 4 := by rw [hpe]; exact padTo_lt _ _
  have HPP : Hid (padTo 0 (a0.size + 5) = p) := hpe.symm
  rw [← hpe] at hpm hand
  obtain ⟨x, hx⟩ : ∃ x, x = a0.size + 5 + p := ⟨_, rfl⟩
  rw [← hx] at hand
  have hx1 : 0 < x := by omega
  have hx2 : x ≤ 1100 := by omega
  have hxa : (x : Int) ≤ (a0.size : Int) + 5 + (p : Int) := by omega
  have hxb : (a0.size : Int) + 5 + (p : Int) ≤ (x : Int) := by omega
  have HX : Hid (x = a0.size + 5 + padTo 0 (a0.size + 5)) := by rw [← hpe]; exact hx
  have HX4 : Hid (x % 4 = 0) := by simp only [Hid]; omega
  have xz : ((x : Int) == 0) = false := by rw [beq_eq_false_iff_ne]; omega
  clear hpm hx hpe
  go_enter Ybaf.func3, Ybaf.ntmps3
  go_wp2_with fail
  refine Calls.mono (cid_calls a1 b1 a2 h2 _) ?_
  rintro e w1 ⟨id, rfl, hid, hb1⟩
  have cr := create_bn (zero_bn w w1 w.heap.size hb1 hb1.size) a0 h0
  rw [← HX.out] at cr
  have CR : Hid _ := cr
  clear cr
  go_wp2_with fail
  refine Calls.mono CR.out ?_
  clear CR
  rintro e w2 ⟨rfl, S, h, b, hb⟩
  by_cases hemp : id.toList.isEmpty = true
  · obtain rfl := empty_id hemp
    clear hemp
    have HV : Hid ((4 : Int) = 4 + (x : Int) - (x : Int)) := by simp only [Hid]; omega
    go_wp2_with fail
    refine Calls.mono (fin_ok b (by omega) HX4.out x hx1 (by omega)) ?_
    clear b
    rintro e w3 ⟨S2, h3, rfl, b⟩
    go_wp2_with fail
    refine Calls.mono (app32n (Ex.nil w3) 4 rfl (by omega) _ (by constructor <;> omega)) ?_
    rintro e w4 ⟨ao, cap, rfl, ex⟩
    generalize hE1 : [] ++ le32 _ = E1 at ex
    have HE1 : Hid _ := hE1
    clear hE1
    go_wp2_with fail
    refine Calls.mono (app32n ex 8 rfl (by omega) a0.size (by omega)) ?_
    clear ex
    rintro e w6 ⟨ao6, cap6, rfl, ex⟩
    generalize hE3 : _ ++ le32 (a0.size : Int) = E3 at ex
    have HE3 : Hid _ := hE3
    clear hE3
    go_wp2_with (at_builtin; refine Lib.wpList_append_own_string _ rfl (.tmp 104) (.tmp 105) 24 9 rfl w3.heap.size 5 i0 Ybaf.underlying24 Ybaf.underlying9 hi hz0 hz1 hz2 _ _ _ rfl ex.own a0 rfl ?s1104 ?s2104 ?s3104 ?_)
    case s1104 => unfold maxLen; omega
    case s2104 => omega
    case s3104 => exact ex.below.size
    intro v' w104 hown' hgrow _
    obtain ⟨ao104, cap104, rfl⟩ := own_shape hown'
    have ex104 := ex.str a0 hown' hgrow
    clear hown' hgrow ex
    have ex := ex104
    clear ex104
    generalize hE104 : _ ++ nums a0 = E4 at ex
    have HE4 : Hid _ := hE104
    clear hE104
    go_wp2
    go_loopw [21, 22] (fun v i wr => ∃ (k nn : Nat) (ao : Option Addr) (cap : Nat), k ≤ p + 1 ∧ nn ≤ 9000 + k ∧ 0 < nn ∧ i = .int .i64 k ∧ v = .slice ao nn cap ∧ Ex w3 wr ao nn cap (padZ E4 k)) (fun _ i _ => p + 1 - (intOf i).toNat)
    case atStart => exact ⟨0, _, _, _, by omega, by omega, by omega, rfl, rfl, by rw [padZ_zero]; exact ex⟩
    case round =>
      clear ex
      obtain ⟨k, nn, aok, capk, hk, hnn, hn0, rfl, rfl, ex⟩ := hrel
      by_cases hlt : k < p + 1
      · have hown := ex.own
        have hsz := ex.below.size
        go_wp2_with (at_builtin; refine wpList_append_own _ rfl _ _ 24 rfl w3.heap.size 5 i0 (.int .u8 0) 1 1 Ybaf.underlying24 hi hz0 hz1 hz2 rfl (by decide) _ _ _ rfl (hown.alloc _) ⟨wr.heap.size, 0, none⟩ 1 1 [.int .u8 0] rfl rfl ?c1 ?c2 ?c3 ?c4 ?c5 ?_)
        case c1 => exact cell_one_new _ _ _
        case c2 => intro u hu; simp at hu; subst hu; rfl
        case c3 => unfold maxLen; omega
        case c4 => omega
        case c5 => simp; omega
        intro v' w9 hown' hgrow _
        obtain ⟨ao9, cap9, rfl⟩ := own_shape hown'
        have ex9 := ex.one _ hown' hgrow
        rw [padZ_succ] at ex9
        clear hown' hgrow ex hown
        go_wp2
        go_roundw
        case rel => exact ⟨k + 1, nn + 1, ao9, cap9, by omega, by omega, by omega, by go_num, rfl, ex9⟩
        case measure => simp [intOf]; omega
      · obtain rfl : k = p + 1 := by omega
        have cv1 := b.conv ex.below
        have cv2 := ex.conv hn0
        rw [padZ, ← HE4.out, ← HE3.out, ← HE1.out, lists_none _ _ HV.out a0 p HPP.out] at cv2
        have HB : Hid _ := b.below.trans (ex.below.mono b.base)
        have EQ : Hid _ := equal_same _ _ _ _ _ _ _ wr cv1 cv2
        clear cv1 cv2 ex b
        go_wp2_with fail
        refine Calls.mono EQ.out ?_
        clear EQ
        rintro e w10 ⟨rfl, rfl⟩
        go_wp2_with fail
        go_ret
        exact ⟨by simp, HB.out⟩
  · have hne : id.toList.isEmpty = false := by simpa using hemp
    clear hemp
    by_cases h4 : id.size = 4
    · have h44 : ((id.size : Int) != 4) = false := by simp; omega
      have H4 : Hid _ := h4
      clear h4
      have HV : Hid (4 + ((x : Int) + 4) - (x : Int) = 4 + ((x + 4 : Nat) : Int) - (x : Int)) := by simp only [Hid]; omega
      go_wp2_with fail
      refine Calls.mono (fin_four_ok b (by omega) hx1 HX4.out id hne H4.out x hx1 (by omega)) ?_
      clear b
      rintro e w3 ⟨S2, h3, rfl, b⟩
      go_wp2_with fail
      refine Calls.mono (app32n (Ex.nil w3) 4 rfl (by omega) _ (by constructor <;> omega)) ?_
      rintro e w4 ⟨ao, cap, rfl, ex⟩
      generalize hE1 : [] ++ le32 _ = E1 at ex
      have HE1 : Hid _ := hE1
      clear hE1
      go_wp2_with (at_builtin; refine Lib.wpList_append_own_string _ rfl (.tmp 95) (.tmp 96) 24 9 rfl w3.heap.size 5 i0 Ybaf.underlying24 Ybaf.underlying9 hi hz0 hz1 hz2 _ _ _ rfl ex.own id rfl ?s195 ?s295 ?s395 ?_)
      case s195 => unfold maxLen; omega
      case s295 => omega
      case s395 => exact ex.below.size
      intro v' w95 hown' hgrow _
      obtain ⟨ao95, cap95, rfl⟩ := own_shape hown'
      have ex95 := ex.str id hown' hgrow
      clear hown' hgrow ex
      have ex := ex95
      clear ex95
      generalize hE95 : _ ++ nums id = E2 at ex
      have HE2 : Hid _ := hE95
      clear hE95
      have hid4 := H4.out
      obtain ⟨N, hN⟩ : ∃ N, N = 4 + id.size := ⟨_, rfl⟩
      rw [← hN] at ex ⊢
      have hN1 : N ≤ 8 := by omega
      clear hN hid4
      go_wp2_with fail
      refine Calls.mono (app32n ex (N + 4) rfl (by omega) a0.size (by omega)) ?_
      clear ex
      rintro e w6 ⟨ao6, cap6, rfl, ex⟩
      generalize hE3 : _ ++ le32 (a0.size : Int) = E3 at ex
      have HE3 : Hid _ := hE3
      clear hE3
      go_wp2_with (at_builtin; refine Lib.wpList_append_own_string _ rfl (.tmp 104) (.tmp 105) 24 9 rfl w3.heap.size 5 i0 Ybaf.underlying24 Ybaf.underlying9 hi hz0 hz1 hz2 _ _ _ rfl ex.own a0 rfl ?s1104 ?s2104 ?s3104 ?_)
      case s1104 => unfold maxLen; omega
      case s2104 => omega
      case s3104 => exact ex.below.size
      intro v' w104 hown' hgrow _
      obtain ⟨ao104, cap104, rfl⟩ := own_shape hown'
      have ex104 := ex.str a0 hown' hgrow
      clear hown' hgrow ex
      have ex := ex104
      clear ex104
      generalize hE104 : _ ++ nums a0 = E4 at ex
      have HE4 : Hid _ := hE104
      clear hE104
      go_wp2
      go_loopw [21, 22] (fun v i wr => ∃ (k nn : Nat) (ao : Option Addr) (cap : Nat), k ≤ p + 1 ∧ nn ≤ 9000 + k ∧ 0 < nn ∧ i = .int .i64 k ∧ v = .slice ao nn cap ∧ Ex w3 wr ao nn cap (padZ E4 k)) (fun _ i _ => p + 1 - (intOf i).toNat)
      case atStart => exact ⟨0, _, _, _, by omega, by omega, by omega, rfl, rfl, by rw [padZ_zero]; exact ex⟩
      case round =>
        clear ex
        obtain ⟨k, nn, aok, capk, hk, hnn, hn0, rfl, rfl, ex⟩ := hrel
        by_cases hlt : k < p + 1
        · have hown := ex.own
          have hsz := ex.below.size
          go_wp2_with (at_builtin; refine wpList_append_own _ rfl _ _ 24 rfl w3.heap.size 5 i0 (.int .u8 0) 1 1 Ybaf.underlying24 hi hz0 hz1 hz2 rfl (by decide) _ _ _ rfl (hown.alloc _) ⟨wr.heap.size, 0, none⟩ 1 1 [.int .u8 0] rfl rfl ?c1 ?c2 ?c3 ?c4 ?c5 ?_)
          case c1 => exact cell_one_new _ _ _
          case c2 => intro u hu; simp at hu; subst hu; rfl
          case c3 => unfold maxLen; omega
          case c4 => omega
          case c5 => simp; omega
          intro v' w9 hown' hgrow _
          obtain ⟨ao9, cap9, rfl⟩ := own_shape hown'
          have ex9 := ex.one _ hown' hgrow
          rw [padZ_succ] at ex9
          clear hown' hgrow ex hown
          go_wp2
          go_roundw
          case rel => exact ⟨k + 1, nn + 1, ao9, cap9, by omega, by omega, by omega, by go_num, rfl, ex9⟩
          case measure => simp [intOf]; omega
        · obtain rfl : k = p + 1 := by omega
          have cv1 := b.conv ex.below
          have cv2 := ex.conv hn0
          rw [padZ, ← HE4.out, ← HE3.out, ← HE2.out, ← HE1.out, lists_four _ _ HV.out (nums id) a0 p HPP.out] at cv2
          have HB : Hid _ := b.below.trans (ex.below.mono b.base)
          have EQ : Hid _ := equal_same _ _ _ _ _ _ _ wr cv1 cv2
          clear cv1 cv2 ex b
          go_wp2_with fail
          refine Calls.mono EQ.out ?_
          clear EQ
          rintro e w10 ⟨rfl, rfl⟩
          go_wp2_with fail
          go_ret
          exact ⟨by simp, HB.out⟩
    · have h44 : ((id.size : Int) != 4) = true := by simp; omega
      have H4 : Hid _ := h4
      clear h4
      go_wp2_with fail
      refine Calls.mono (fin_odd_ok F HF.out b (by omega) hx1 HX4.out id hne H4.out hid x hx1 (by omega)) ?_
      clear b
      rintro e w3 ⟨q, rfl, hbl⟩
      have HB : Hid _ := hbl
      clear hbl
      have heq := eql_nil
      go_wp2
      go_ret
      exact ⟨by simp, HB.out⟩
end Go.Proofs.YbulkeoyFmt.lawS0271CLayout
