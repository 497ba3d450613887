import Derived.Test.YbulkeoyWell
namespace Go.Proofs.Ybulkeoy.lawS0271BWellFormed
open Go.RowKit

theorem two_one (a b : Int) : ∀ u ∈ ([.int .u8 a, .int .u8 b] : List Value), u.oneCell' = true := by
  intro u hu; simp at hu; rcases hu with rfl | rfl <;> rfl
theorem cells_one (c0 : Int) (f : Int → Int) (Z : List Int) (q : Nat) : ∀ u ∈ (.int .u8 c0 :: rowTo f Z q : List Value), u.oneCell' = true := by
  intro u hu
  rcases List.mem_cons.1 hu with rfl | hu
  · rfl
  · obtain ⟨x, _, rfl⟩ := List.mem_map.1 hu; rfl

set_option maxRecDepth 100000 in
set_option maxHeartbeats 1000000 in
theorem core (a0 : Option Addr) (n0 cap0 : Nat) (Z0 : List Int) (a1 : Int) (a2 : Option Addr) (n2 cap2 : Nat) (Z2 : List Int) (a3 : Int) (a4 : Bool) (w : World)
    (hZ0 : Z0.length = n0) (hZ2 : Z2.length = n2) (hn0 : n0 ≤ 1024) (hn2 : n2 ≤ 1024) (b1 : 0 ≤ a1 ∧ a1 ≤ 255) (b3 : 0 ≤ a3 ∧ a3 ≤ 255)
    (row0 : ∀ k, k < n0 → ∃ b off, a0 = some ⟨b, off, none⟩ ∧ b < w.heap.size ∧ w.cell? ⟨b, off + k, none⟩ = some (.int .u8 (Z0.getD k 0)))
    (row2 : ∀ k, k < n2 → ∃ b off, a2 = some ⟨b, off, none⟩ ∧ b < w.heap.size ∧ w.cell? ⟨b, off + k, none⟩ = some (.int .u8 (Z2.getD k 0)) ∧ 0 ≤ Z2.getD k 0 ∧ Z2.getD k 0 ≤ 255) :
    Calls Yba.prog 5 #[.slice a0 n0 cap0, .int .u8 a1, .slice a2 n2 cap2, .int .u8 a3, .bool a4] w fun e w' => e = .returned (.bool true) ∧ Below w.heap.size w w' := by
  obtain ⟨i0, hi, hz0, hz1, hz2⟩ := info_parts Yba.info5'
  have R0 : Hid _ := row0
  have R2 : Hid _ := row2
  clear row0 row2
  have d0 : decide (1024 < (n0 : Int)) = false := by simp; omega
  have d2 : decide (1024 < (n2 : Int)) = false := by simp; omega
  go_enter Yba.func5, Yba.ntmps5
  go_wp2
  go_loopw [11, 13, 30] (fun v _ i wr => ∃ (k : Nat) (ao : Option Addr) (cap : Nat), k ≤ n0 ∧ i = .int .i64 k ∧ v = .slice ao k cap ∧ wr.ownsRow w.heap.size 5 1 (.slice ao k cap) k (rowTo (fun c => c) Z0 k) ∧ Below w.heap.size w wr) (fun _ _ i _ => n0 - (intOf i).toNat)
  case atStart => exact ⟨0, none, 0, Nat.zero_le _, rfl, rfl, World.ownsRow_nil _ _ _ _, Below.refl _ _⟩
  case round =>
    obtain ⟨k, ao, cap, hk, rfl, rfl, hown, hbl⟩ := hrel
    by_cases hlt : k < n0
    · obtain ⟨b, off, rfl, hb, hc⟩ := R0.out k hlt
      have hcx : wr.cell? ⟨b, off + k, none⟩ = some (.int .u8 (Z0.getD k 0)) := (hbl.cell (p := ⟨b, off + k, none⟩) hb).trans hc
      have HTM : Hid _ := rowTo_succ (fun c => c) Z0 k (by omega)
      have hsz := hbl.size
      clear hc
      generalize Z0.getD k 0 = c at *
      go_wp2_with (at_builtin; refine wpList_append_own _ rfl _ _ 29 rfl w.heap.size 5 i0 (.int .u8 0) 1 1 Yba.underlying29 hi hz0 hz1 hz2 rfl (by decide) _ _ _ rfl (hown.alloc _) ⟨wr.heap.size, 0, none⟩ 1 1 [.int .u8 c] rfl rfl ?c1 ?c2 ?c3 ?c4 ?c5 ?_)
      case c1 => exact cell_one_new _ _ _
      case c2 => intro u hu; simp at hu; subst hu; rfl
      case c3 => unfold maxLen; omega
      case c4 => omega
      case c5 => simp; omega
      intro v' w1 hown' hgrow _
      obtain ⟨ao', cap', rfl, _, _⟩ := own_shape hown'
      have hbl' : Below w.heap.size w w1 := (hbl.alloc hsz _).grown hgrow (by simp; omega) (fun q hq => (hown.lt q hq).1)
      rw [HTM.out] at hown'
      clear hgrow hown hcx
      go_wp2
      go_roundw
      case rel => exact ⟨k + 1, ao', cap', by omega, by go_num, rfl, hown', hbl'⟩
      case measure => simp [intOf]; omega
    · obtain rfl : k = n0 := by omega
      clear hlt hk
      go_wp2_with fail
      refine (first_calls a1 b1 _).mono ?_
      rintro e w' ⟨rfl, rfl⟩
      obtain ⟨wp, rfl⟩ : ∃ wo : World, wo = w' := ⟨_, rfl⟩
      generalize tab firsts a1 = c0
      have hszp := hbl.size
      go_wp2
      go_loopw [15, 17, 46] (fun v _ i ws => ∃ (q : Nat) (ai : Option Addr) (cai : Nat), q ≤ n2 ∧ i = .int .i64 q ∧ v = .slice ai (q + 1) cai ∧ ws.ownsRow wp.heap.size 5 1 (.slice ai (q + 1) cai) (q + 1) (.int .u8 c0 :: rowTo (tab partsT) Z2 q) ∧ Below wp.heap.size wp ws) (fun _ _ i _ => n2 - (intOf i).toNat)
      case atStart => exact ⟨0, _, 1, Nat.zero_le _, rfl, rfl, World.ownsRow_lit wp #[.int .u8 c0] 1 (Nat.le_refl _) (by unfold maxLen; omega) rfl, (Below.refl _ wp).alloc (Nat.le_refl _) _⟩
      case round =>
        obtain ⟨q, ai, cai, hq, rfl, rfl, howi, hbli⟩ := hrel
        by_cases hlt : q < n2
        · obtain ⟨b, off, rfl, hb, hc, hc0, hc1⟩ := R2.out q hlt
          have hcx : wr.cell? ⟨b, off + q, none⟩ = some (.int .u8 (Z2.getD q 0)) := (hbli.cell (p := ⟨b, off + q, none⟩) (by show b < wp.heap.size; omega)).trans ((hbl.cell (p := ⟨b, off + q, none⟩) hb).trans hc)
          have HTM : Hid _ := rowTo_succ (tab partsT) Z2 q (by omega)
          have hsz := hbli.size
          clear hc
          generalize Z2.getD q 0 = c at *
          go_wp2_with (first | (go_at_call 10; refine (partc_calls c ⟨hc0, hc1⟩ _).mono ?_; rintro e w' ⟨rfl, rfl⟩) | (at_builtin; refine wpList_append_own _ rfl _ _ 29 rfl wp.heap.size 5 i0 (.int .u8 0) 1 1 Yba.underlying29 hi hz0 hz1 hz2 rfl (by decide) _ _ _ rfl (howi.alloc _) ⟨w'.heap.size, 0, none⟩ 1 1 [.int .u8 (tab partsT c)] rfl rfl ?c1 ?c2 ?c3 ?c4 ?c5 ?_))
          case c1 => exact cell_one_new _ _ _
          case c2 => intro u hu; simp at hu; subst hu; rfl
          case c3 => unfold maxLen; omega
          case c4 => omega
          case c5 => simp; omega
          intro v' w1 hown' hgrow _
          obtain ⟨ai', cai', rfl, _, _⟩ := own_shape hown'
          have hbl' : Below wp.heap.size wp w1 := (hbli.alloc hsz _).grown hgrow (by simp; omega) (fun q hq => (howi.lt q hq).1)
          rw [HTM.out] at hown'
          clear hgrow howi hcx
          go_wp2
          go_roundw
          case rel => exact ⟨q + 1, ai', cai', by omega, by go_num, rfl, hown', hbl'⟩
          case measure => simp [intOf]; omega
        · obtain rfl : q = n2 := by omega
          clear hlt hq
          have hsz := hbli.size
          have howk := own_below hown hbli (fun x hx => (hown.lt x hx).2)
          obtain ⟨gi, rfl, hg1, hg2⟩ := own_some howi (by omega)
          have hcells := howi.cells (g := gi) rfl
          have hlen := howi.1
          go_wp2_with (at_builtin; refine wpList_append_own2 _ rfl (.tmp 56) (.tmp 57) 29 rfl w.heap.size 5 i0 (.int .u8 0) 1 1 Yba.underlying29 hi hz0 hz1 hz2 rfl (by decide) _ _ _ _ rfl howk ⟨gi, 0, none⟩ (q + 1) cai (.int .u8 c0 :: rowTo (tab partsT) Z2 q) rfl ?c0 ?c1 ?c2 (by omega) ?c3 ?c4 ?c5 ?_)
          case c0 => exact hlen
          case c1 => exact hcells
          case c2 => exact cells_one c0 _ _ _
          case c3 => unfold maxLen; omega
          case c4 => omega
          case c5 => omega
          intro asrc caps ws hows hgrow hwhere
          have hblw : Below w.heap.size w ws := (hbl.trans (hbli.mono hszp)).grown hgrow (by omega) (fun x hx => (hown.lt x hx).1)
          have howi' := howi.kept hgrow (Or.inr (by
            intro e
            have := (hown.lt gi e.symm).2
            omega))
          obtain ⟨g, rfl, hga, hgb⟩ := own_some hows (by omega)
          have hggi : g ≠ gi := by
            rcases hwhere with e | ⟨y, e, hy⟩
            · have := (hown.lt g (by rw [← e]; rfl)).2
              omega
            · injection e with e
              injection e with e
              omega
          rw [rowTo_all _ Z0 k hZ0, rowTo_all _ Z2 q hZ2] at hows
          rw [rowTo_all _ Z2 q hZ2] at howi'
          have hPP : ∀ c ∈ Z2.map (tab partsT), isPart c = true := by
            intro c hc
            obtain ⟨x, _, rfl⟩ := List.mem_map.1 hc
            exact parts_part x
          have hPl : (Z2.map (tab partsT)).length + 1 = q + 1 := by simp; omega
          generalize Z2.map (tab partsT) = P at *
          have hows2 : ws.ownsRow w.heap.size 5 1 (.slice (some ⟨g, 0, none⟩) (k + (q + 1)) caps) (k + (q + 1)) ((Z0 ++ (c0 :: P)).map (Value.int .u8)) := by simpa using hows
          have howi2 : ws.ownsRow wp.heap.size 5 1 (.slice (some ⟨gi, 0, none⟩) (q + 1) cai) (q + 1) ((c0 :: P).map (Value.int .u8)) := by simpa using howi'
          clear hgrow howi hown howk hcells hlen hbl hbli hZ2 R0 R2 hga hgb hg1 hg2 hszp hows howi' hwhere
          have hsw := hblw.size
          cases a4
          · have HS : Hid _ := stops_not a3
            go_wp2_with (first | (go_at_call 11; refine (stop_calls a3 b3 _).mono ?_; rintro e w' ⟨rfl, rfl⟩; generalize tab stops a3 = st at *) | (at_builtin; refine wpList_append_own _ rfl (.tmp 61) (.tmp 64) 29 rfl w.heap.size 5 i0 (.int .u8 0) 1 1 Yba.underlying29 hi hz0 hz1 hz2 rfl (by decide) _ _ _ rfl (hows2.alloc _) ⟨w'.heap.size, 0, none⟩ 2 2 [.int .u8 st, .int .u8 120] rfl rfl ?d1 ?d2 ?d3 ?d4 ?d5 ?_))
            case d1 => exact cell_two_new _ _ _ _
            case d2 => exact two_one _ _
            case d3 => unfold maxLen; omega
            case d4 => omega
            case d5 => simp; omega
            intro vt wt howt hgrow _
            have hblt : Below w.heap.size w wt := (hblw.alloc hsw _).grown hgrow (by simp; omega) (fun x hx => (hows2.lt x hx).1)
            have howi3 := (howi2.alloc (.cells #[.int .u8 st, .int .u8 120] 5)).kept hgrow (Or.inr (by
              intro e
              injection e with e
              exact hggi e.symm))
            obtain ⟨at', capt, rfl, _, _⟩ := own_shape howt
            obtain ⟨gt, rfl, _, _⟩ := own_some howt (by omega)
            have nh := name_here w wt Z0 P [st, 120] c0 (k + (q + 1) + 2) capt gt gi cai (q + 1) k _ hPP (Or.inr ⟨st, [120], rfl, HS.out⟩) hZ0 hPl (by omega) hblt (by simpa using howt) (by simpa using howi3) (.string ⟨#[]⟩) (.int .i64 0)
            have NH : Hid _ := nh
            clear nh howt howi3 howi2 hows2 hgrow hblt
            go_wp2_with fail
            refine Calls.mono NH.out ?_
            rintro e w1 ⟨rfl, e2, hbf, ecv⟩
            have HB : Hid _ := hbf
            clear hbf NH
            go_wp2
            go_ret
            exact ⟨by simp, HB.out⟩
          · have nh := name_here w ws Z0 P [] c0 (k + (q + 1)) caps g gi cai (q + 1) k _ hPP (Or.inl rfl) hZ0 hPl (by omega) hblw (by simpa using hows2) howi2 (.string ⟨#[]⟩) (.int .i64 0)
            have NH : Hid _ := nh
            clear nh
            go_wp2_with fail
            refine Calls.mono NH.out ?_
            rintro e w1 ⟨rfl, e2, hbf, ecv⟩
            have HB : Hid _ := hbf
            clear hbf NH
            go_wp2
            go_ret
            exact ⟨by simp, HB.out⟩
/-- WHAT THE WALK IS TOLD OF A SLICE OF INTEGERS THAT CAME IN: it is nil; or it leads to a row of 'cap' cells, the numbers 'zs' (the first 'len' are its elements, the rest its spare room), each fitting its kind. -/
def IsRow (k : IntKind) (w : World) (a : Option Addr) (len cap : Nat) (zs : List Int) : Prop :=
  (a = none ∧ len = 0 ∧ cap = 0 ∧ zs = []) ∨
  ∃ x, a = some x ∧ len ≤ cap ∧ cap ≤ maxLen ∧ zs.length = cap ∧ (∀ i, i < zs.length → w.cell? (x.add i) = some (.int k (zs.getD i 0))) ∧ ∀ n ∈ zs, (Lit.int k n).wf = true

set_option maxRecDepth 100000 in
theorem long0 (a0 : Option Addr) (len0 cap0 : Nat) (a1 : Int) (a2 : Option Addr) (len2 cap2 : Nat) (a3 : Int) (a4 : Bool) (w : World) (h : 1024 < len0) (hm : len0 ≤ maxLen) :
    Calls Yba.prog 5 #[.slice a0 len0 cap0, .int .u8 a1, .slice a2 len2 cap2, .int .u8 a3, .bool a4] w fun e w' => e = .returned (.bool true) ∧ Below w.heap.size w w' := by
  unfold maxLen at hm
  go_enter Yba.func5, Yba.ntmps5
  go_wp2
  go_ret
  exact ⟨rfl, Below.refl _ _⟩
set_option maxRecDepth 100000 in
theorem long2 (a0 : Option Addr) (len0 cap0 : Nat) (a1 : Int) (a2 : Option Addr) (len2 cap2 : Nat) (a3 : Int) (a4 : Bool) (w : World) (h0 : len0 ≤ 1024) (h : 1024 < len2) (hm : len2 ≤ maxLen) :
    Calls Yba.prog 5 #[.slice a0 len0 cap0, .int .u8 a1, .slice a2 len2 cap2, .int .u8 a3, .bool a4] w fun e w' => e = .returned (.bool true) ∧ Below w.heap.size w w' := by
  unfold maxLen at hm
  have d0 : decide (1024 < (len0 : Int)) = false := by simp; omega
  go_enter Yba.func5, Yba.ntmps5
  go_wp2
  go_ret
  exact ⟨rfl, Below.refl _ _⟩

theorem view {w : World} {a : Option Addr} {len cap : Nat} {zs : List Int} (h : IsRow .u8 w a len cap zs) :
    len ≤ maxLen ∧ (zs.take len).length = len ∧ ∀ i, i < len → ∃ b off, a = some ⟨b, off, none⟩ ∧ b < w.heap.size ∧ w.cell? ⟨b, off + i, none⟩ = some (.int .u8 ((zs.take len).getD i 0)) ∧ 0 ≤ (zs.take len).getD i 0 ∧ (zs.take len).getD i 0 ≤ 255 := by
  rcases h with ⟨_, rfl, _, rfl⟩ | ⟨x, rfl, h1, h2, h3, h4, h5⟩
  · exact ⟨Nat.zero_le _, rfl, fun i hi => absurd hi (Nat.not_lt_zero _)⟩
  · refine ⟨Nat.le_trans h1 h2, by simp; omega, fun i hi => ?_⟩
    obtain ⟨b, off, rfl, hc⟩ := ints_at h4 (by omega)
    have hci := hc i (by omega)
    have e : (zs.take len).getD i 0 = zs.getD i 0 := by simp [List.getD, hi]
    have hmem : zs.getD i 0 ∈ zs := by
      rw [List.getD_eq_getElem?_getD, List.getElem?_eq_getElem (show i < zs.length by omega)]
      exact List.getElem_mem _
    have hb := bounds_u8 (h5 _ hmem)
    rw [e]
    exact ⟨b, off, rfl, World.block_lt_of_cell? _ _ hci, hci, hb⟩

theorem walk (a0 : Option Addr) (len0 cap0 : Nat) (z0 : List Int) (a1 : Int) (a2 : Option Addr) (len2 cap2 : Nat) (z2 : List Int) (a3 : Int) (a4 : Bool) (w : World) (w0 : IsRow .u8 w a0 len0 cap0 z0) (w1 : (Lit.int .u8 a1).wf = true) (w2 : IsRow .u8 w a2 len2 cap2 z2) (w3 : (Lit.int .u8 a3).wf = true) :
    Calls Yba.prog 5 #[.slice a0 len0 cap0, .int .u8 a1, .slice a2 len2 cap2, .int .u8 a3, .bool a4] w fun e w' => e = .returned (.bool true) ∧ Below w.heap.size w w' := by
  have b1 := bounds_u8 w1
  have b3 := bounds_u8 w3
  obtain ⟨m0, l0, r0⟩ := view w0
  obtain ⟨m2, l2, r2⟩ := view w2
  by_cases h0 : len0 ≤ 1024
  · by_cases h2 : len2 ≤ 1024
    · exact core a0 len0 cap0 (z0.take len0) a1 a2 len2 cap2 (z2.take len2) a3 a4 w l0 l2 h0 h2 b1 b3 (fun k hk => by
        obtain ⟨b, off, e1, e2, e3, _⟩ := r0 k hk
        exact ⟨b, off, e1, e2, e3⟩) r2
    · exact long2 a0 len0 cap0 a1 a2 len2 cap2 a3 a4 w h0 (by omega) m2
  · exact long0 a0 len0 cap0 a1 a2 len2 cap2 a3 a4 w (by omega) m0

end Go.Proofs.Ybulkeoy.lawS0271BWellFormed
