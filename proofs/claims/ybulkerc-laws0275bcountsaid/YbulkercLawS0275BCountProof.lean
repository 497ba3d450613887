/- The frame: after the guide's own shells; the walk stands in YbulkercCount. -/
import Derived.Test.YbulkercRows
import Derived.Test.YbulkercCount
import Derived.WalkKit
import Derived.ProofKit
import Derived.OpenShut
import Derived.ShutString
import Derived.ChangeOld
import Derived.SliceStrings
import Derived.Below
import Derived.Carry
namespace Go.Proofs.Ybulkerc.lawS0275BCount
open Go.ChangeShapes Go.WideShapes Go.ChangeAt Go.RowKit
open Go.ChangeMaps (open_string shut_string)
set_option linter.unusedVariables false

theorem own : ownKnob Yba.prog.godebug = none := by kernel_rfl
theorem laidOut : laidOutB Yba.prog = true := by kernel_rfl

/-- WHAT THE WALK IS TOLD OF THE SLICE OF STRINGS: nil, or a row of at least 'len' strings. -/
def IsStrs (w : World) (a : Option Addr) (len : Nat) (ss : List ByteArray) : Prop :=
  (a = none ∧ len = 0) ∨
  ∃ x, a = some x ∧ len ≤ maxLen ∧ len ≤ ss.length ∧ ∀ i, i < ss.length → w.cell? (x.add i) = some (.string (ss.getD i ByteArray.empty))

theorem spot_none {w : World} {x : Addr} {v : Value} (h : w.cell? x = some v) : x.spot = none := by
  unfold World.cell? at h
  split at h
  · split at h
    · cases h
    · rename_i h2; simpa using h2
  · cases h

theorem view {w : World} {a : Option Addr} {len : Nat} {ss : List ByteArray} (h : IsStrs w a len ss) :
    len ≤ maxLen ∧ ∀ i, i < len → ∃ b off, a = some ⟨b, off, none⟩ ∧ b < w.heap.size ∧ w.cell? ⟨b, off + i, none⟩ = some (.string (ss.getD i ByteArray.empty)) := by
  rcases h with ⟨_, rfl⟩ | ⟨x, rfl, h1, h2, h4⟩
  · exact ⟨Nat.zero_le _, fun i hi => absurd hi (Nat.not_lt_zero _)⟩
  · refine ⟨h1, fun i hi => ?_⟩
    have hc := h4 i (by omega)
    have h00 := h4 0 (by omega)
    obtain ⟨b, off, sp⟩ := x
    have hs : sp = none := spot_none h00
    subst hs
    have e : (⟨b, off, none⟩ : Addr).add i = ⟨b, off + i, none⟩ := by
      unfold Addr.add
      split
      · rename_i h; subst h; rfl
      · rfl
    rw [e] at hc
    exact ⟨b, off, rfl, World.block_lt_of_cell? _ _ hc, hc⟩

set_option maxRecDepth 100000 in
theorem long (a0 : Option Addr) (n cap : Nat) (q : ByteArray) (b : Int) (w : World) (h : 1024 < n) (hm : n ≤ maxLen) :
    Calls Yba.prog 3 #[.slice a0 n cap, .string q, .int .u8 b] w fun e w' => e = .returned (.bool true) ∧ Below w.heap.size w w' := by
  unfold maxLen at hm
  go_enter Yba.func3, Yba.ntmps3
  go_wp2
  go_ret
  exact ⟨rfl, Below.refl _ _⟩

theorem walk (a0 : Option Addr) (n cap : Nat) (ss : List ByteArray) (q : ByteArray) (b : Int) (w : World) (w0 : IsStrs w a0 n ss) (w2 : (Lit.int .u8 b).wf = true) :
    Calls Yba.prog 3 #[.slice a0 n cap, .string q, .int .u8 b] w fun e w' => e = .returned (.bool true) ∧ Below w.heap.size w w' := by
  obtain ⟨m0, row⟩ := view w0
  have hb := bounds_u8 w2
  by_cases h0 : n ≤ 1024
  · rcases Nat.eq_zero_or_pos n with hz | hp
    · exact core_zero a0 n cap ss q b w hz row
    · cases hodd : (b % 2 == 0)
      · exact core_odd a0 n cap ss q b w h0 hp hb.1 hb.2 hodd row
      · have hnn : (0 : Int) < (n : Int) := by omega
        have hj1 : 0 ≤ b / 2 % (n : Int) := Int.emod_nonneg _ (by omega)
        have hj2 : b / 2 % (n : Int) < (n : Int) := Int.emod_lt_of_pos _ hnn
        obtain ⟨j, hj⟩ := Int.eq_ofNat_of_zero_le hj1
        have hjn : j < n := by omega
        obtain ⟨bl, off, rfl, hbl, hc⟩ := row j hjn
        exact core_even bl off n cap ss q _ b j w h0 hb.1 hb.2 hodd hj hjn hc row
  · exact long a0 n cap q b w (by omega) m0

set_option maxRecDepth 100000 in
theorem lifted (os : Os) (started : os.Started) (H : Type) (enc : TypeId × Value → H) :
    ReturnsInHanded {} Yba.checked os 3 .any (Rows.lawS0275BCountSpec.pre6 enc Yba.prog Yba.f3 Rows.lawS0275BCountRow.domain false) (Rows.lawS0275BCountSpec.post enc Yba.prog Yba.f3 false true false false) := by
  refine returnsInHanded_of_change (C := Yba.checked) own started (by kernel_rfl) Yba.func3
    (ChangeSpec.witness6 (enc := enc) (C := Yba.checked) false ⟨#[], #[.slice none 0 0, .string ⟨#[]⟩, .int .u8 0], []⟩ 8 (by kernel_rfl) (by kernel_rfl) (by kernel_rfl) (by kernel_rfl)) ?_
  intro W base args ds gs before hval0 hW hcnd _
  have hval : ∀ (j : Nat) t v, Yba.f3.params[j]? = some t → args[j]? = some v → Value.okWide Yba.prog W .any base t v := hval0
  have hW' := hW
  obtain ⟨p, q, hA0, hV, rfl, hfz, hnd⟩ := hW
  have hA : DataW.TrodAll enc Yba.prog W 0 (fun _ => true) true Yba.f3.params.toList args.toList ds p := hA0
  rw [Yba.params3] at hA hval
  obtain ⟨v0, vs0, d0, ds0, p0, q0, hargs, rfl, rfl, h0, r0⟩ := trodAll_cons hA
  obtain ⟨v1, vs1, d1, ds1, p1, q1, rfl, rfl, rfl, h1, r1⟩ := trodAll_cons r0
  obtain ⟨v2, vs2, d2, ds2, p2, q2, rfl, rfl, rfl, h2, r2⟩ := trodAll_cons r1
  obtain ⟨rfl, rfl, rfl⟩ := trodAll_nil r2
  obtain rfl : args = #[v0, v1, v2] := by cases args; simp_all
  obtain ⟨rfl, rfl⟩ := trodVars_none hV
  obtain ⟨a0, len0, cap0, rfl⟩ := okWide_slice Yba.underlying22 (hval 0 22 v0 rfl rfl)
  have k0 := h0
  have lt0 : ∀ x ∈ p0, x.block < W.heap.size := by obtain ⟨m, hm⟩ := k0; exact DataW.trod_lt m _ _ _ hm
  obtain ⟨s0, w0⟩ : ∃ ss, IsStrs W a0 len0 ss := by
    obtain ⟨fuel, hf⟩ := h0
    rcases open_strings Yba.underlying22 Yba.underlying9 (by kernel_rfl) hf with ⟨hcs, _⟩ | ⟨x, l, c, ss, hcs, _, hl, hm, hz, _, hcell, _⟩
    · simp [Value.cells] at hcs
      obtain ⟨rfl, rfl, rfl⟩ := hcs
      exact ⟨[], .inl ⟨rfl, rfl⟩⟩
    · simp [Value.cells] at hcs
      obtain ⟨rfl, rfl, rfl⟩ := hcs
      exact ⟨ss, .inr ⟨_, rfl, by omega, by simp at hz; omega, hcell⟩⟩
  obtain ⟨a1, rfl, rfl, rfl, w1⟩ := open_string Yba.underlying9 (hval 1 9 v1 rfl rfl) h1
  obtain ⟨a2, rfl, rfl, rfl, w2⟩ := open_int Yba.underlying5 (hval 2 5 v2 rfl rfl) h2
  clear hA0 hval0
  refine (walk a0 len0 cap0 s0 a1 a2 W w0 w2).mono fun e W' ⟨he, bel⟩ => ?_
  subst he
  exact ⟨_, rfl, _, _, _, [], _, [], hW', trodAll_mk1 (shut_bool Yba.underlying4 _), (trodAll_cons_mk (Below.trod laidOut (by kernel_rfl) (of_decide_eq_true (by kernel_rfl)) k0 bel lt0) (trodAll_cons_mk (shut_string Yba.underlying9 w1) (trodAll_cons_mk (shut_int Yba.underlying5 w2) trodAll_mk0))), rfl, bel.frame _, fun h => by cases h⟩

theorem over : Rows.lawS0275BCountRow.holds Yba.pinned (OpenSpec.ofChange Rows.lawS0275BCountSpec) :=
  OpenClaim.holds_of_wide 3 Yba.f3 rfl rfl rfl rfl rfl rfl rfl ⟨rfl, rfl, rfl, rfl, rfl⟩ rfl rfl rfl rfl rfl (by kernel_rfl) Yba.func3 (by kernel_rfl)
    (of_decide_eq_true (by kernel_rfl)) (by unfold Func.isWrapper; first | (rw [if_pos (by decide +kernel)]; kernel_rfl) | (rw [if_neg (by decide +kernel)]; exact ⟨rfl, rfl⟩))
    (fun os started H enc _ => lifted os started H enc)

/-- ████ THE STATEMENT ████ -/
theorem proved : Rows.LawS0275BCountSaid := over
end Go.Proofs.Ybulkerc.lawS0275BCount
