/-
  laws.FnCanonicalTold: whatever the text, it returns true, and nothing that was there has turned. No condition but the length that Go's own texts have.
-/
import Derived.Test.YtbmidcahepfjeaaDetect
import Derived.Test.YtbmidcahepfjeaaSpec
namespace Go.Proofs.Ytbmidcahepfjeaa
open Go.RowKit
def openHtml : ByteArray := ⟨#[60, 104, 116, 109, 108, 62]⟩
theorem conv_html (w : World) : ∃ cap W1, (convert 9 25 (.string ⟨#[60, 104, 116, 109, 108, 62]⟩)).run Try.prog w = .ok (.slice (some ⟨w.heap.size, 0, none⟩) 6 cap) W1 ∧ 6 ≤ cap ∧ IsHtml W1 w.heap.size ∧ Below w.heap.size w W1 ∧ W1.heap.size = w.heap.size + 1 := by
  have hr := run_bytes_of_string (P := Try.prog) w 9 25 5 openHtml Try.underlying9 Try.underlying25 Try.underlying5
  have hz : openHtml.size = 6 := rfl
  have hcell : ∀ j (hj : j < openHtml.data.size), _ = some (Value.int .u8 (openHtml.data[j].toNat : Int)) := fun j hj =>
    (World.cell?_alloc_mark w.drew (bytesRow openHtml (grownCap w openHtml.size 0 5)) 5 ((bytesRow openHtml (grownCap w openHtml.size 0 5)).size, (bytesRow openHtml (grownCap w openHtml.size 0 5)).size + 1) j).trans (bytesRow_at openHtml _ j hj)
  refine ⟨_, _, hr, ?_, ⟨hcell 0 (by decide), hcell 1 (by decide), hcell 2 (by decide), hcell 3 (by decide), hcell 4 (by decide), hcell 5 (by decide)⟩, (Below.refl _ _).drew.alloc (Nat.le_refl _) _, by rw [World.size_alloc]; rfl⟩
  have := grownCap_ge w openHtml.size 0 5
  omega
set_option maxHeartbeats 400000 in
theorem http_html (D cap : Nat) (hcap : 6 ≤ cap) (w : World) (hD : D < w.heap.size) (hh : IsHtml w D) :
    Calls Try.prog 10 #[.slice (some ⟨D, 0, none⟩) 6 cap] w fun e w' => e = .returned (.string html) ∧ Below w.heap.size w w' := by
  have hH := Lib.hid hh
  clear hh
  go_enter Try.func10, Try.ntmps10
  go_wp2_with (go_at_call 13; refine (detect_html D cap hcap _ hD hH.out).mono ?_; rintro e w' ⟨rfl, hb⟩)
  go_ret
  exact ⟨rfl, ‹_›⟩
set_option maxHeartbeats 400000 in
theorem sniff_html (w : World) :
    Calls Try.prog 7 #[.string ⟨#[60, 104, 116, 109, 108, 62]⟩] w fun e w' => e = .returned (.string html) ∧ Below w.heap.size w w' := by
  obtain ⟨cap, W1, hconv, hcap, hh, hW, hz⟩ := conv_html w
  have hH := Lib.hid hh
  have hW' := Lib.hid hW
  have hlt : w.heap.size < W1.heap.size := by omega
  have hle : w.heap.size ≤ W1.heap.size := by omega
  clear hh hW hz
  go_enter Try.func7, Try.ntmps7
  go_wp2_with (go_at_call 10; refine (http_html _ cap hcap _ hlt hH.out).mono ?_; rintro e w' ⟨rfl, hb⟩)
  go_ret
  have hb : Below W1.heap.size W1 _ := ‹_›
  exact ⟨rfl, hW'.out.trans (hb.mono hle)⟩
theorem html_is : (html.toList == [116, 101, 120, 116, 47, 104, 116, 109, 108, 59, 32, 99, 104, 97, 114, 115, 101, 116, 61, 117, 116, 102, 45, 56]) = true := by decide +kernel
theorem ab_is : ((canonS (ByteArray.mk #[97, 45, 98])).toList == [65, 45, 66]) = true := by decide +kernel
set_option maxHeartbeats 400000 in
theorem sniffs_any (w : World) : Calls Try.prog 4 #[] w fun e w' => e = .returned (.bool true) ∧ Below w.heap.size w w' := by
  have h1 := html_is
  have h2 := ab_is
  go_enter Try.func4, Try.ntmps4
  go_wp2_with (first | (go_at_call 7; refine (sniff_html _).mono ?_; rintro e w1 ⟨rfl, hb1⟩; have hB1 := Lib.hid hb1; clear hb1) | (go_at_call 5; refine (impl_any _ _ (by decide)).mono ?_; rintro e w2 ⟨rfl, hb2⟩; have hB2 := Lib.hid hb2; clear hb2))
  go_ret
  exact ⟨rfl, hB1.out.trans (hB2.out.mono hB1.out.size)⟩
theorem canonS_canonS (s : ByteArray) : canonS (canonS s) = canonS s := by
  unfold canonS
  show (ByteArray.mk (Pl.canon (Pl.canon (bs s)).toArray.toList).toArray) = _
  rw [Pl.canon_canon]
theorem size_canonS (s : ByteArray) : (canonS s).size = s.size := by
  show ((Pl.canon (bs s)).toArray).size = s.size
  rw [List.size_toArray, Pl.length_canon, length_bs]
theorem impl_again (s : ByteArray) (w : World) (hs : s.size ≤ 2147483647) : Calls Try.prog 5 #[.string (canonS s)] w fun e w' => e = .returned (.string (canonS s)) ∧ Below w.heap.size w w' := by
  have h := impl_any (canonS s) w (by rw [size_canonS]; exact hs)
  exact h.mono fun e w' hR => ⟨by rw [hR.1, canonS_canonS], hR.2⟩
set_option maxHeartbeats 1000000 in
/-- The law's walk. -/
theorem law_any (s : ByteArray) (w : World) (hm : s.size ≤ maxLen) : Calls Try.prog 3 #[.string s] w fun e w' => e = .returned (.bool true) ∧ Below w.heap.size w w' := by
  unfold maxLen at hm
  by_cases hbig : 2147483647 < s.size
  · go_enter Try.func3, Try.ntmps3
    go_wp2
    go_ret
    exact ⟨rfl, Below.refl _ _⟩
  · have hs : s.size ≤ 2147483647 := by omega
    clear hbig
    by_cases h500 : 500 < s.size
    · go_enter Try.func3, Try.ntmps3
      go_wp2_with (go_at_call 4; refine (sniffs_any _).mono ?_; rintro e w1 ⟨rfl, hb1⟩; have hB1 := Lib.hid hb1; clear hb1)
      go_ret
      exact ⟨rfl, hB1.out⟩
    · go_enter Try.func3, Try.ntmps3
      go_wp2_with (first
        | (go_at_call 6; (with_reducible refine (spec_any _ _ hs).mono ?_); rintro e w2 ⟨rfl, hb2⟩; have hB2 := Lib.hid hb2; clear hb2)
        | (go_at_call 5; (with_reducible refine (impl_again s _ hs).mono ?_); rintro e w3 ⟨rfl, hb3⟩; have hB3 := Lib.hid hb3; clear hb3)
        | (go_at_call 5; (with_reducible refine (impl_any s _ hs).mono ?_); rintro e w1 ⟨rfl, hb1⟩; have hB1 := Lib.hid hb1; clear hb1)
        | (go_at_call 4; (with_reducible refine (sniffs_any _).mono ?_); rintro e w4 ⟨rfl, hb4⟩; have hB4 := Lib.hid hb4; clear hb4))
      go_ret
      have h12 := hB1.out.trans (hB2.out.mono hB1.out.size)
      have h13 := h12.trans (hB3.out.mono h12.size)
      exact ⟨rfl, h13.trans (hB4.out.mono h13.size)⟩
end Go.Proofs.Ytbmidcahepfjeaa
