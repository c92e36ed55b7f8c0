/-
  wire.DetectContentType at a row that begins with '<html>': it is HTML; nothing that was there has turned.
-/
import Derived.Test.YtbmidcahepfjeaaMatch
import Derived.Test.YtbmidcahepfjeaaSigs
namespace Go.Proofs.Ytbmidcahepfjeaa
open Go.RowKit
/-- Row D begins with '<html>'. -/
def IsHtml (w : World) (D : Nat) : Prop :=
  w.cell? ⟨D, 0, none⟩ = some (.int .u8 60) ∧ w.cell? ⟨D, 1, none⟩ = some (.int .u8 104) ∧ w.cell? ⟨D, 2, none⟩ = some (.int .u8 116) ∧ w.cell? ⟨D, 3, none⟩ = some (.int .u8 109) ∧ w.cell? ⟨D, 4, none⟩ = some (.int .u8 108) ∧ w.cell? ⟨D, 5, none⟩ = some (.int .u8 62)
def html : ByteArray := "text/html; charset=utf-8".toUTF8
theorem method_match (A n : Nat) (w : World) :
    (method 165 36 (.slice (some ⟨A, 0, none⟩) n n) "pub-hallboy/pub/wire.match").run Try.prog w = .ok (33, .slice (some ⟨A, 0, none⟩) n n) w := by kernel_rfl
theorem below_html {B D : Nat} {w w' : World} (h : Below B w w') (hD : D < B) (hh : IsHtml w D) : IsHtml w' D := by
  obtain ⟨d0, d1, d2, d3, d4, d5⟩ := hh
  refine ⟨?_, ?_, ?_, ?_, ?_, ?_⟩
  · rw [h.cell (p := ⟨D, 0, none⟩) hD]; exact d0
  · rw [h.cell (p := ⟨D, 1, none⟩) hD]; exact d1
  · rw [h.cell (p := ⟨D, 2, none⟩) hD]; exact d2
  · rw [h.cell (p := ⟨D, 3, none⟩) hD]; exact d3
  · rw [h.cell (p := ⟨D, 4, none⟩) hD]; exact d4
  · rw [h.cell (p := ⟨D, 5, none⟩) hD]; exact d5
set_option maxHeartbeats 400000 in
theorem match_long_at (A D cap : Nat) (hcap : 6 ≤ cap) (w : World) :
    Calls Try.prog 33 #[.slice (some ⟨A, 0, none⟩) 14 14, .slice (some ⟨D, 0, none⟩) 6 cap, .int .i64 0] w fun e w' => e = .returned (.string ⟨#[]⟩) ∧ w = w' := match_long A D cap hcap w
theorem match_html_at (A D cap : Nat) (hcap : 6 ≤ cap) (w : World) (sb : ∀ j, w.cell? ⟨A, j, none⟩ = cellsB[j]?) (hh : IsHtml w D) :
    Calls Try.prog 33 #[.slice (some ⟨A, 0, none⟩) 5 5, .slice (some ⟨D, 0, none⟩) 6 cap, .int .i64 0] w fun e w' => e = .returned (.string html) ∧ w = w' := by
  obtain ⟨d0, d1, d2, d3, d4, d5⟩ := hh
  exact match_html A D cap hcap w (sb 0) (sb 1) (sb 2) (sb 3) (sb 4) d0 d1 d2 d3 d4 d5
set_option maxHeartbeats 2000000 in
theorem detect_html (D cap : Nat) (hcap : 6 ≤ cap) (w : World) (hD : D < w.heap.size) (hh : IsHtml w D) :
    Calls Try.prog 13 #[.slice (some ⟨D, 0, none⟩) 6 cap] w fun e w' => e = .returned (.string html) ∧ Below w.heap.size w w' := by
  have hH := Lib.hid hh
  obtain ⟨d0, d1, d2, d3, d4, d5⟩ := hh
  have hne : html.toList.isEmpty = false := by decide +kernel
  have mm := method_match
  go_enter Try.func13, Try.ntmps13
  go_wp2
  refine wp_loop_rounds 1 ?_
  rw [rounds_succ]
  go_wp2_with (first | (go_at_call 16; refine (ws_60 _).mono ?_; rintro e w' ⟨rfl, rfl⟩) | (go_at_call 17; refine (sigs_any _).mono ?_; rintro e w1 ⟨k, rfl, s0, s1, sb, hbel⟩; have hb := Lib.hid hbel; have sB := Lib.hid sb; clear hbel sb))
  refine wp_loop_rounds 2 ?_
  rw [rounds_succ]
  go_wp2_with (go_at_call 33; refine (match_long_at _ _ _ hcap _).mono ?_; rintro e w' ⟨rfl, rfl⟩)
  rw [rounds_succ]
  go_wp2_with (go_at_call 33; refine (match_html_at _ _ _ hcap _ sB.out (below_html hb.out hD hH.out)).mono ?_; rintro e w' ⟨rfl, rfl⟩)
  go_ret
  exact ⟨rfl, hb.out⟩
end Go.Proofs.Ytbmidcahepfjeaa
