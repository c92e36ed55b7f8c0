/-
  htmlSig.match at '<html>': the mark '<!DOCTYPE HTML' does not fit, the mark '<HTML' does.
-/
import Derived.Test.YtbmidcahepfjeaaMime
namespace Go.Proofs.Ytbmidcahepfjeaa
open Go.RowKit
set_option maxHeartbeats 400000 in
/-- The mark of '<!DOCTYPE HTML' is longer than six bytes. -/
theorem match_long (A D cap : Nat) (hcap : 6 ≤ cap) (w : World) :
    Calls Try.prog 33 #[.slice (some ⟨A, 0, none⟩) 14 14, .slice (some ⟨D, 0, none⟩) 6 cap, .int .i64 0] w fun e w' => e = .returned (.string ByteArray.empty) ∧ w = w' := by
  have hc0 : ¬ cap = 0 := by omega
  go_enter Try.func33, Try.ntmps33
  go_wp2
  go_ret
  exact ⟨rfl, rfl⟩
set_option maxHeartbeats 2000000 in
theorem match_html (A D cap : Nat) (hcap : 6 ≤ cap) (w : World)
    (a0 : w.cell? ⟨A, 0, none⟩ = some (.int .u8 60)) (a1 : w.cell? ⟨A, 1, none⟩ = some (.int .u8 72)) (a2 : w.cell? ⟨A, 2, none⟩ = some (.int .u8 84)) (a3 : w.cell? ⟨A, 3, none⟩ = some (.int .u8 77)) (a4 : w.cell? ⟨A, 4, none⟩ = some (.int .u8 76))
    (d0 : w.cell? ⟨D, 0, none⟩ = some (.int .u8 60)) (d1 : w.cell? ⟨D, 1, none⟩ = some (.int .u8 104)) (d2 : w.cell? ⟨D, 2, none⟩ = some (.int .u8 116)) (d3 : w.cell? ⟨D, 3, none⟩ = some (.int .u8 109)) (d4 : w.cell? ⟨D, 4, none⟩ = some (.int .u8 108)) (d5 : w.cell? ⟨D, 5, none⟩ = some (.int .u8 62)) :
    Calls Try.prog 33 #[.slice (some ⟨A, 0, none⟩) 5 5, .slice (some ⟨D, 0, none⟩) 6 cap, .int .i64 0] w fun e w' => e = .returned (.string "text/html; charset=utf-8".toUTF8) ∧ w = w' := by
  have hc0 : ¬ cap = 0 := by omega
  have b1 : bits BinOp.and IntKind.u8 104 223 = 72 := by decide +kernel
  have b2 : bits BinOp.and IntKind.u8 116 223 = 84 := by decide +kernel
  have b3 : bits BinOp.and IntKind.u8 109 223 = 77 := by decide +kernel
  have b4 : bits BinOp.and IntKind.u8 108 223 = 76 := by decide +kernel
  go_enter Try.func33, Try.ntmps33
  go_wp2
  refine wp_loop_rounds 6 ?_
  rw [rounds_succ]
  go_wp2
  rw [rounds_succ]
  go_wp2
  rw [rounds_succ]
  go_wp2
  rw [rounds_succ]
  go_wp2
  rw [rounds_succ]
  go_wp2
  rw [rounds_succ]
  go_wp2_with (go_at_call 34; refine (tt_62 _).mono ?_; rintro e w' ⟨rfl, rfl⟩)
  go_ret
  exact ⟨rfl, rfl⟩
end Go.Proofs.Ytbmidcahepfjeaa
