import Derived.Test.YbulkeoyFmtCreate2
import Derived.Stop.CallBack
import Derived.Stop.IfaceNil
import GoSem.ClaimData
namespace Go.Proofs.YbulkeoyFmt
open Go.RowKit Go.Extern.Stop Go.Stop Go.Extern

theorem Ybaf.call24 (args : Array Value) (w : World) : (callFunc 24 args).run Ybaf.prog w = (FmtCalls.errorf #[9, 58] #[33] args).run Ybaf.prog w :=
  run_callFunc_next Ybaf.func24 (by kernel_rfl) (by kernel_rfl) (by kernel_rfl) args w
theorem Ybaf.guard (name : String) (w : World) : (FmtStop.guard name).run Ybaf.prog w = .ok () w := by kernel_rfl
theorem Ybaf.nextTurns : Extern.next FmtCalls.turnsRow = some (FmtCalls.begun #[] #[]) := by kernel_rfl
theorem Ybaf.nextReturned : Extern.next FmtCalls.returnedRow = some (FmtCalls.returned #[] #[]) := by kernel_rfl
theorem Ybaf.fmt0 : FmtStop.printed? ⟨#[37, 115, 32, 105, 115, 32, 119, 114, 105, 116, 116, 101, 110, 32, 119, 104, 105, 108, 101, 32, 97, 32, 116, 97, 98, 108, 101, 32, 105, 115]⟩ 1 = some [(0, 115, false)] := by kernel_rfl
theorem Ybaf.fmt0r (w : World) : (FmtDoors.printed ⟨#[37, 115, 32, 105, 115, 32, 119, 114, 105, 116, 116, 101, 110, 32, 119, 104, 105, 108, 101, 32, 97, 32, 116, 97, 98, 108, 101, 32, 105, 115]⟩ 1).run Ybaf.prog w = .ok [(0, 115, false)] w := by kernel_rfl
def Ybaf.shape9 : List UInt8 := [12, 6, 0, 0, 0, 0, 0, 0, 0, 115, 116, 114, 105, 110, 103]
theorem Ybaf.act9_115w (name : String) (x : Value) (w : World) : (FmtCalls.act name true 115 false (.iface 9 x)).run Ybaf.prog w = .ok (.closed true) w := by kernel_rfl
theorem Ybaf.op9_115w (name : String) (x : ByteArray) (w : World) : (FmtStop.operand name true 115 false (.iface 9 (.string x))).run Ybaf.prog w = .ok (Ybaf.shape9, FmtStop.pack x.data.toList) w := by kernel_rfl
theorem Ybaf.str9 (w : World) : (typeStr 9).run Ybaf.prog w = .ok "string" w := by kernel_rfl
theorem Ybaf.ptr62 (w : World) : (FmtStop.ptrTo "errors.errorString").run Ybaf.prog w = .ok 62 w := by kernel_rfl
theorem Ybaf.elem62 (w : World) : (elemOf 62).run Ybaf.prog w = .ok 64 w := by kernel_rfl
theorem Ybaf.isError62 (w : World) : (FmtDoors.textMethod 62 "Error").run Ybaf.prog w = .ok true w := by kernel_rfl
theorem Ybaf.fmt1 : FmtStop.printed? ⟨#[97, 110, 32, 111, 102, 102, 115, 101, 116, 32, 108, 101, 97, 100, 115, 32, 116, 111, 32, 37, 100, 44, 32, 119, 104, 105, 99, 104, 32, 105, 115, 32, 110, 111, 116, 32, 119, 114, 105, 116, 116, 101, 110, 32, 121, 101, 116]⟩ 1 = some [(0, 100, false)] := by kernel_rfl
theorem Ybaf.fmt1r (w : World) : (FmtDoors.printed ⟨#[97, 110, 32, 111, 102, 102, 115, 101, 116, 32, 108, 101, 97, 100, 115, 32, 116, 111, 32, 37, 100, 44, 32, 119, 104, 105, 99, 104, 32, 105, 115, 32, 110, 111, 116, 32, 119, 114, 105, 116, 116, 101, 110, 32, 121, 101, 116]⟩ 1).run Ybaf.prog w = .ok [(0, 100, false)] w := by kernel_rfl
theorem Ybaf.fmt2 : FmtStop.printed? ⟨#[116, 104, 101, 32, 102, 105, 108, 101, 32, 105, 100, 101, 110, 116, 105, 102, 105, 101, 114, 32, 37, 113, 32, 105, 115, 32, 110, 111, 116, 32, 37, 100, 32, 98, 121, 116, 101, 115, 32, 108, 111, 110, 103]⟩ 2 = some [(0, 113, false), (1, 100, false)] := by kernel_rfl
theorem Ybaf.fmt2r (w : World) : (FmtDoors.printed ⟨#[116, 104, 101, 32, 102, 105, 108, 101, 32, 105, 100, 101, 110, 116, 105, 102, 105, 101, 114, 32, 37, 113, 32, 105, 115, 32, 110, 111, 116, 32, 37, 100, 32, 98, 121, 116, 101, 115, 32, 108, 111, 110, 103]⟩ 2).run Ybaf.prog w = .ok [(0, 113, false), (1, 100, false)] w := by kernel_rfl
theorem Ybaf.act9_113w (name : String) (x : Value) (w : World) : (FmtCalls.act name true 113 false (.iface 9 x)).run Ybaf.prog w = .ok (.closed true) w := by kernel_rfl
theorem Ybaf.op9_113w (name : String) (x : ByteArray) (w : World) : (FmtStop.operand name true 113 false (.iface 9 (.string x))).run Ybaf.prog w = .ok (Ybaf.shape9, FmtStop.pack x.data.toList) w := by kernel_rfl
def Ybaf.shape3 : List UInt8 := [5, 3, 0, 0, 0, 0, 0, 0, 0, 105, 110, 116]
theorem Ybaf.act3_100w (name : String) (x : Value) (w : World) : (FmtCalls.act name true 100 false (.iface 3 x)).run Ybaf.prog w = .ok (.closed true) w := by kernel_rfl
theorem Ybaf.op3_100w (name : String) (x : Int) (w : World) : (FmtStop.operand name true 100 false (.iface 3 (.int .i64 x))).run Ybaf.prog w = .ok (Ybaf.shape3, Go.Extern.Stop.digits 8 (x % 2 ^ 64).toNat) w := by kernel_rfl
theorem Ybaf.str3 (w : World) : (typeStr 3).run Ybaf.prog w = .ok "int" w := by kernel_rfl
theorem Ybaf.act29_100w (name : String) (x : Value) (w : World) : (FmtCalls.act name true 100 false (.iface 29 x)).run Ybaf.prog w = .ok (.closed true) w := by kernel_rfl
def Ybaf.shape29 : List UInt8 := [8, 14, 0, 0, 0, 0, 0, 0, 0, 111, 102, 102, 115, 101, 116, 119, 105, 115, 101, 46, 82, 101, 102]
theorem Ybaf.op29_100w (name : String) (x : Int) (w : World) : (FmtStop.operand name true 100 false (.iface 29 (.int .u32 x))).run Ybaf.prog w = .ok (Ybaf.shape29, Go.Extern.Stop.digits 8 (x % 2 ^ 64).toNat) w := by kernel_rfl
theorem Ybaf.str29 (w : World) : (typeStr 29).run Ybaf.prog w = .ok "offsetwise.Ref" w := by kernel_rfl
attribute [local go_sem] Ybaf.fmt1 Ybaf.fmt1r Ybaf.fmt2 Ybaf.fmt2r Ybaf.act9_113w Ybaf.op9_113w Ybaf.act3_100w Ybaf.op3_100w Ybaf.str3 Ybaf.act29_100w Ybaf.op29_100w Ybaf.str29
attribute [local go_sem] Ybaf.call24 Ybaf.guard Ybaf.fmt0 Ybaf.fmt0r Ybaf.act9_115w Ybaf.op9_115w Ybaf.str9 Ybaf.ptr62 Ybaf.elem62 Ybaf.isError62

set_option maxRecDepth 100000 in
set_option maxHeartbeats 1000000 in
theorem errorf_s (F : Interp) (what : ByteArray) (w : World) (hF : F.answers w.tape) (V : Nat) (hc : w.cell? ⟨V, 0, none⟩ = some (.iface 9 (.string what))) :
    Calls Ybaf.prog 21 #[.string ⟨#[37, 115, 32, 105, 115, 32, 119, 114, 105, 116, 116, 101, 110, 32, 119, 104, 105, 108, 101, 32, 97, 32, 116, 97, 98, 108, 101, 32, 105, 115]⟩, .slice (some ⟨V, 0, none⟩) 1 1] w fun e w' => ∃ s, e = .returned (.iface 62 (.pointer (some ⟨w.heap.size, 0, none⟩))) ∧ w' = (w.alloc (.cells #[.string s] 64)).drew := by
  have hF' := answers_open hF
  go_enter Ybaf.func21, Ybaf.ntmps21
  go_wp2
  apply rows_value Ybaf.nextTurns
  case hr =>
    go_simp
    exact ⟨rfl, rfl⟩
  case h =>
    go_wp2
    go_ret
    exact ⟨_, rfl, rfl⟩

set_option maxRecDepth 100000 in
set_option maxHeartbeats 1000000 in
theorem errorf_d (F : Interp) (v : Int) (w : World) (hF : F.answers w.tape) (V : Nat) (hc : w.cell? ⟨V, 0, none⟩ = some (.iface 29 (.int .u32 v))) :
    Calls Ybaf.prog 21 #[.string ⟨#[97, 110, 32, 111, 102, 102, 115, 101, 116, 32, 108, 101, 97, 100, 115, 32, 116, 111, 32, 37, 100, 44, 32, 119, 104, 105, 99, 104, 32, 105, 115, 32, 110, 111, 116, 32, 119, 114, 105, 116, 116, 101, 110, 32, 121, 101, 116]⟩, .slice (some ⟨V, 0, none⟩) 1 1] w fun e w' => ∃ s, e = .returned (.iface 62 (.pointer (some ⟨w.heap.size, 0, none⟩))) ∧ w' = (w.alloc (.cells #[.string s] 64)).drew := by
  have hF' := answers_open hF
  go_enter Ybaf.func21, Ybaf.ntmps21
  go_wp2
  apply rows_value Ybaf.nextTurns
  case hr =>
    go_simp
    exact ⟨rfl, rfl⟩
  case h =>
    go_wp2
    go_ret
    exact ⟨_, rfl, rfl⟩

set_option maxRecDepth 100000 in
set_option maxHeartbeats 1000000 in
theorem errorf_q (F : Interp) (id : ByteArray) (v : Int) (w : World) (hF : F.answers w.tape) (V : Nat) (hc : w.cell? ⟨V, 0, none⟩ = some (.iface 9 (.string id))) (hc1 : w.cell? ⟨V, 1, none⟩ = some (.iface 3 (.int .i64 v))) :
    Calls Ybaf.prog 21 #[.string ⟨#[116, 104, 101, 32, 102, 105, 108, 101, 32, 105, 100, 101, 110, 116, 105, 102, 105, 101, 114, 32, 37, 113, 32, 105, 115, 32, 110, 111, 116, 32, 37, 100, 32, 98, 121, 116, 101, 115, 32, 108, 111, 110, 103]⟩, .slice (some ⟨V, 0, none⟩) 2 2] w fun e w' => ∃ s, e = .returned (.iface 62 (.pointer (some ⟨w.heap.size, 0, none⟩))) ∧ w' = (w.alloc (.cells #[.string s] 64)).drew := by
  have hF' := answers_open hF
  go_enter Ybaf.func21, Ybaf.ntmps21
  go_wp2
  apply rows_value Ybaf.nextTurns
  case hr =>
    go_simp
    exact ⟨rfl, rfl⟩
  case h =>
    go_wp2
    go_ret
    exact ⟨_, rfl, rfl⟩

/-- failf, whatever the text. -/
theorem failf_bd {b0 : Nat} {w0 W : World} {B S h x : Nat} {X : List Int} {m : Int} {it : Bool} {err fl : Value} (a : Bd b0 w0 W B S h x X m it err fl) (herr : err = .nilIface ∨ ∃ p, err = .iface 62 (.pointer (some p))) (fmt : ByteArray) (sl : Value)
    (he : Calls Ybaf.prog 21 #[.string fmt, sl] W fun e w' => ∃ s, e = .returned (.iface 62 (.pointer (some ⟨W.heap.size, 0, none⟩))) ∧ w' = (W.alloc (.cells #[.string s] 64)).drew) :
    Calls Ybaf.prog 17 #[.pointer (some ⟨B, 0, none⟩), .string fmt, sl] W fun e w' => e = .returned (.tuple #[]) ∧ ∃ p, Bd b0 w0 w' B S h x X m it (.iface 62 (.pointer (some p))) fl := by
  have HE : Hid _ := he
  clear he
  go_enter Ybaf.func17, Ybaf.ntmps17
  go_wp2_with fail
  refine Calls.mono HE.out ?_
  rintro e w' ⟨s, rfl, rfl⟩
  have a1 := (a.alloc (.cells #[.string s] 64)).drewN 1
  go_wp2_with fail
  rcases herr with rfl | ⟨p, rfl⟩
  · refine (fail_nil B _ a1.c18 (a1.fr 18) _ _).mono ?_
    rintro e w' ⟨rfl, rfl⟩
    go_wp2_with fail
    go_end0
    exact ⟨rfl, _, a1.setErr _⟩
  · refine (fail_kept B _ _ _ a1.c18 _ _).mono ?_
    rintro e w' ⟨rfl, rfl⟩
    go_wp2_with fail
    go_end0
    exact ⟨rfl, p, a1⟩
end Go.Proofs.YbulkeoyFmt
