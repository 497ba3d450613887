/- The numbers under which this dump holds the library's lock, and TryLock's walk (free lock: taken, true). -/
import Derived.Test.YbulkercProg
import Derived.Conc.MuLone
import Derived.WalkKit
import Derived.KernelRfl
namespace Go.Proofs
abbrev Yba.muLink : Go.Conc.Locks.MuLink := { lock := 8, unlock := 7, ilock := 11, iunlock := 10, lockSlow := 19, unlockSlow := 18, disable := 12, enable := 13, acquire := 15, relMerge := 16, cas32 := 14, add32 := 17, tMutex := 48, tIMutex := 46, tPMutex := 79, tPIMutex := 80, tPI32 := 82, tUP := 84, tNoCopy := 40, tU32 := 42 }
theorem Yba.muLib : Go.Conc.Locks.MuLib Yba.prog Yba.muLink :=
  ⟨Yba.func8, Yba.func7, Yba.func11, Yba.func10, Yba.func12, Yba.func13, Yba.func15, Yba.func16, Yba.func14, Yba.func17, Yba.underlying46, Yba.runUnderlying46, Yba.sizeOf46, Yba.isAgg46, Yba.zeroValue46, Yba.underlying48, Yba.runUnderlying48, Yba.sizeOf48, Yba.isAgg48, Yba.zeroValue48, Yba.underlying79, Yba.runUnderlying79, Yba.sizeOf79, Yba.isAgg79, Yba.zeroValue79, Yba.underlying80, Yba.runUnderlying80, Yba.sizeOf80, Yba.isAgg80, Yba.zeroValue80, Yba.underlying82, Yba.runUnderlying82, Yba.sizeOf82, Yba.isAgg82, Yba.zeroValue82, Yba.underlying84, Yba.runUnderlying84, Yba.sizeOf84, Yba.isAgg84, Yba.zeroValue84, Yba.underlying40, Yba.runUnderlying40, Yba.sizeOf40, Yba.isAgg40, Yba.zeroValue40, Yba.underlying21, Yba.runUnderlying21, Yba.sizeOf21, Yba.isAgg21, Yba.zeroValue21, (by kernel_rfl)⟩

namespace Ybulkerc

/-- A pointer to a variable of a size, converted to type 84: the address as it is. -/
theorem conv_at {P : Program} {src dst t : TypeId} (hs : P.underlying src = some (.pointer t)) (hd0 : P.underlying dst = Yba.prog.underlying 84) (hsz : (P.info? t).map (fun i => decide (i.size = 0)) = some false)
    {a : Addr} {v : Value} {w : World} (hc : w.cell? a = some v) : (convert src dst (.pointer (some a))).run P w = .ok (.pointer (some a)) w := by
  have hd := hd0.trans Yba.underlying84
  obtain ⟨e, n, hsh, hlt, hsp⟩ := World.shape?_of_cell? hc
  obtain ⟨i, hi, hz0⟩ := Option.map_eq_some_iff.1 hsz
  have hz : i.size ≠ 0 := by simpa using hz0
  have hge : ¬ (n ≤ a.off) := by omega
  simp only [convert, Sem.run_bind, run_underlying hs, run_underlying hd, Result.andThen]
  change Sem.run P (underlying src >>= ?f) w = _
  simp [Conv.seenAt, viewAt, cellsIn, sizeOf, typeInfo, run_underlying hs, run_underlying hd, hi, hz, hsh, hge, Result.andThen]

set_option maxHeartbeats 1600000 in
set_option maxRecDepth 100000 in
theorem itry (a : Addr) (w : World) (hc : w.cell? a = some (.int .i32 0)) (hz : w.frozen? a = false) :
    Calls Yba.prog 9 #[.pointer (some a)] w fun e w' => e = .returned (.bool true) ∧ w' = w.setCell a (.int .i32 1) := by
  have hd : ∀ w, (callFunc 12 #[]).run Yba.prog w = .ok (.value (.tuple #[])) w := Go.MuLone.disable Yba.muLib
  have he : ∀ w, (callFunc 13 #[]).run Yba.prog w = .ok (.value (.tuple #[])) w := Go.MuLone.enable Yba.muLib
  have ha : ∀ a w, (callFunc 15 #[.pointer (some a)]).run Yba.prog w = .ok (.value (.tuple #[])) w := Go.MuLone.acquire Yba.muLib
  have hcas := run_call_cas_hit (P := Yba.prog) Yba.func14 (by kernel_rfl) (by kernel_rfl) (by kernel_rfl) .i32 (by kernel_rfl) (y := 1) hc hz
  have hc' : (w.setCell a (.int .i32 1)).cell? a = some (.int .i32 1) := by simp [go_sem, hc]
  have hcv := conv_at (P := Yba.prog) (src := 80) (dst := 84) Yba.underlying80 rfl (by kernel_rfl) hc'
  go_enter Yba.func9, Yba.ntmps9
  go_wp2
  go_ret
  exact ⟨rfl, rfl⟩

set_option maxHeartbeats 800000 in
set_option maxRecDepth 100000 in
theorem try_free (a : Addr) (w : World) (hc : w.cell? a = some (.int .i32 0)) (hz : w.frozen? a = false) :
    Calls Yba.prog 6 #[.pointer (some a)] w fun e w' => e = .returned (.bool true) ∧ w' = w.setCell a (.int .i32 1) := by
  go_enter Yba.func6, Yba.ntmps6
  go_wp2_with (go_at_call 9; refine (itry a _ hc hz).mono ?_; rintro e w' ⟨rfl, rfl⟩)
  go_ret
  exact ⟨rfl, rfl⟩

set_option maxHeartbeats 800000 in
set_option maxRecDepth 100000 in
/-- RoomSize: the lock free; what the lookup answers and its length are laid as equations. -/
theorem roomSize (S M : Nat) (q : ByteArray) (v : Value) (n : Int) (w : World)
    (h0 : w.cell? ⟨S, 20, none⟩ = some (.int .i32 0)) (h1 : w.cell? ⟨S, 23, none⟩ = some (.map (some M))) (f0 : w.frozen? ⟨S, 20, none⟩ = false)
    (hl : (Instr.lookup 25 (.map (some M)) (.string q) false).run Yba.prog (w.setCell ⟨S, 20, none⟩ (.int .i32 1)) = .ok v (w.setCell ⟨S, 20, none⟩ (.int .i32 1)))
    (hn : ∀ ty, (Builtin.len_ #[60] ty #[v]).run Yba.prog (w.setCell ⟨S, 20, none⟩ (.int .i32 1)) = .ok (.int .i64 n) (w.setCell ⟨S, 20, none⟩ (.int .i32 1))) :
    Calls Yba.prog 5 #[.pointer (some ⟨S, 0, none⟩), .string q] w fun e w' => e = .returned (.int .i64 n) ∧
      w' = (w.setCell ⟨S, 20, none⟩ (.int .i32 1)).setCell ⟨S, 20, none⟩ (.int .i32 0) := by
  go_enter_defers Yba.func5, Yba.ntmps5
  go_wp2_with (go_at_call 8; refine (Go.MuLone.lock_free Yba.muLib ⟨S, 20, none⟩ _ h0 f0).mono ?_; rintro e w' ⟨rfl, rfl⟩)
  refine leaves_cons (f := 7) (args := #[.pointer (some ⟨S, 20, none⟩)]) (by simp) (by simp [go_sem]) ?_
  refine (Go.MuLone.unlock_deferred Yba.muLib ⟨S, 20, none⟩ .returning _ ?_ ?_).mono ?_
  · exact World.cell?_setCell_same w ⟨S, 20, none⟩ (.int .i32 1) h0
  · simp [f0]
  rintro e u' w'' ⟨rfl, rfl, rfl⟩
  exact ⟨_, results_tmp rfl _ _ _, rfl, rfl⟩

end Ybulkerc
end Go.Proofs
