/-
  textproto.CanonicalMIMEHeaderKey, http.CanonicalHeaderKey and impl.Canonical at every text of at most 2^31 - 1 bytes: the name as headers have it; nothing that was there has turned.
-/
import Derived.Test.YtbmidcahepfjeaaBytes
namespace Go.Proofs.Ytbmidcahepfjeaa
open Go.RowKit
/-- The name as headers have it, a text. -/
def canonS (s : ByteArray) : ByteArray := ⟨(Pl.canon (bs s)).toArray⟩
theorem canonS_of {s : ByteArray} (h : Pl.canon (bs s) = bs s) : canonS s = s := by
  unfold canonS; rw [h]
def Ret11 (s : ByteArray) (w : World) (e : Ending) (w' : World) : Prop := e = .returned (.string (canonS s)) ∧ Below w.heap.size w w'
theorem ret11 {s t : ByteArray} {w w' : World} (h : t = canonS s) (hb : Below w.heap.size w w') : Ret11 s w (.returned (.string t)) w' := ⟨by rw [h], hb⟩
theorem conv_in (w : World) (s : ByteArray) : ∃ cap W1, (convert 9 25 (.string s)).run Try.prog w = .ok (.slice (some ⟨w.heap.size, 0, none⟩) s.size cap) W1 ∧ HasBytes W1 w.heap.size (bs s) ∧ Below w.heap.size w W1 ∧ W1.heap.size = w.heap.size + 1 := by
  refine ⟨_, _, run_bytes_of_string (P := Try.prog) w 9 25 5 s Try.underlying9 Try.underlying25 Try.underlying5, ⟨fun j hj => ?_, fun j hj => ?_⟩, (Below.refl _ _).drew.alloc (Nat.le_refl _) _, by rw [World.size_alloc]; rfl⟩
  · have h := World.cell?_alloc_mark w.drew (bytesRow s (grownCap w s.size 0 5)) 5 ((bytesRow s (grownCap w s.size 0 5)).size, (bytesRow s (grownCap w s.size 0 5)).size + 1) j
    rw [length_bs] at hj
    rw [bytesRow_at s _ j hj] at h
    rw [← at_bs s j hj]
    exact h
  · have h := World.frozen?_alloc_mark w.drew (bytesRow s (grownCap w s.size 0 5)) 5 (bytesRow s (grownCap w s.size 0 5)).size ((bytesRow s (grownCap w s.size 0 5)).size + 1) j
    rw [length_bs] at hj
    refine Eq.trans h ?_
    have : ¬ (bytesRow s (grownCap w s.size 0 5)).size ≤ j := by
      unfold bytesRow
      rw [Array.size_append, Array.size_map]
      have : s.data.size = s.size := rfl
      omega
    simp [this]
set_option maxHeartbeats 4000000 in
theorem mime_any (s : ByteArray) (w : World) (hs : s.size ≤ 2147483647) : Calls Try.prog 11 #[.string s] w (Ret11 s w) := by
  have hL := Lib.hid (length_bs s)
  obtain ⟨cap, W1, hconv, hB, hW, _⟩ := conv_in w s
  have hB := Lib.hid hB
  have hW := Lib.hid hW
  go_enter Try.func11, Try.ntmps11
  go_wp2
  go_loop [0, 3, 4] (fun t u i => ∃ k : Nat, k ≤ s.size ∧ t = .string s ∧ i = .int .i64 k ∧ u = .bool (Pl.first (bs s) k) ∧ Pl.clean (bs s) k) (fun _ _ i => s.size - (intOf i).toNat)
  case atStart => exact ⟨0, by omega, rfl, rfl, rfl, Pl.clean_zero _⟩
  case round =>
    obtain ⟨k, hk, rfl, rfl, rfl, hC⟩ := hrel
    have hC' := Lib.hid hC
    clear hC
    by_cases hlt : k < s.size
    · have hat := Lib.hid (at_bs s k hlt)
      have hkl : Hid (k < (bs s).length) := by show k < (bs s).length; rw [hL.out]; exact hlt
      cases ht : Pl.tok (s[k]'hlt) with
      | false =>
        have hT := Lib.hid ht
        clear ht
        have hR := Lib.hid (canonS_of (Pl.canon_bad hkl.out (by rw [← hat.out]; exact hT.out)))
        go_wp2_with (go_at_call 14; refine (valid_no hT.out _).mono ?_; rintro e w' ⟨rfl, rfl⟩)
        go_ret
        exact ret11 hR.out.symm (Below.refl _ _)
      | true =>
        have hT := Lib.hid ht
        clear ht
        have hfs : ((s[k]'hlt) == 45) = Pl.first (bs s) (k + 1) := by rw [first_succ, ← hat.out]
        cases hf : Pl.first (bs s) k with
        | true =>
          by_cases hcl : (97 : Int) ≤ (s[k]'hlt).toNat ∧ ((s[k]'hlt).toNat : Int) ≤ 122
          · obtain ⟨h1, h2⟩ := hcl
            go_wp2_with (first | (go_at_call 14; refine (valid_yes hT.out _).mono ?_; rintro e w' ⟨rfl, rfl⟩) | (go_at_call 15; refine (canon_bytes _ _ cap (bs s) _ hL.out hs hB.out).mono ?_; rintro e w' ⟨o, rfl, hb⟩))
            go_ret
            exact ret11 rfl (hW.out.trans ‹_›)
          · have hst : ((s[k]'hlt).toNat : Int) < 97 ∨ (122 : Int) < (s[k]'hlt).toNat := by omega
            clear hcl
            have hC2 := Lib.hid (Pl.clean_succ hC'.out (by rw [← hat.out]; exact hT.out) (by rw [hf, ← hat.out, cn_true_stays hst]))
            have hq := (beq_45 (s[k]'hlt)).trans hfs
            clear hfs
            rcases hst with hst | hst
            all_goals
              go_wp2_with (go_at_call 14; refine (valid_yes hT.out _).mono ?_; rintro e w' ⟨rfl, rfl⟩)
              go_round
              case rel => exact ⟨k + 1, by omega, rfl, by go_num, rfl, hC2.out⟩
              case measure => simp [intOf]; omega
        | false =>
          by_cases hcl : (65 : Int) ≤ (s[k]'hlt).toNat ∧ ((s[k]'hlt).toNat : Int) ≤ 90
          · obtain ⟨h1, h2⟩ := hcl
            go_wp2_with (first | (go_at_call 14; refine (valid_yes hT.out _).mono ?_; rintro e w' ⟨rfl, rfl⟩) | (go_at_call 15; refine (canon_bytes _ _ cap (bs s) _ hL.out hs hB.out).mono ?_; rintro e w' ⟨o, rfl, hb⟩))
            go_ret
            exact ret11 rfl (hW.out.trans ‹_›)
          · have hst : ((s[k]'hlt).toNat : Int) < 65 ∨ (90 : Int) < (s[k]'hlt).toNat := by omega
            clear hcl
            have hC2 := Lib.hid (Pl.clean_succ hC'.out (by rw [← hat.out]; exact hT.out) (by rw [hf, ← hat.out, cn_false_stays hst]))
            have hq := (beq_45 (s[k]'hlt)).trans hfs
            clear hfs
            rcases hst with hst | hst
            all_goals
              go_wp2_with (go_at_call 14; refine (valid_yes hT.out _).mono ?_; rintro e w' ⟨rfl, rfl⟩)
              go_round
              case rel => exact ⟨k + 1, by omega, rfl, by go_num, rfl, hC2.out⟩
              case measure => simp [intOf]; omega
    · obtain rfl : k = s.size := by omega
      have hR := Lib.hid (canonS_of (s := s) (Pl.canon_clean (by rw [hL.out]; exact hC'.out)))
      go_wp2
      go_ret
      exact ret11 hR.out.symm (Below.refl _ _)
set_option maxHeartbeats 400000 in
theorem key_any (s : ByteArray) (w : World) (hs : s.size ≤ 2147483647) : Calls Try.prog 8 #[.string s] w (Ret11 s w) := by
  go_enter Try.func8, Try.ntmps8
  go_wp2_with (go_at_call 11; refine (mime_any s _ hs).mono ?_; rintro e w' ⟨rfl, hb⟩)
  go_ret
  exact ret11 rfl ‹_›
set_option maxHeartbeats 400000 in
theorem impl_any (s : ByteArray) (w : World) (hs : s.size ≤ 2147483647) : Calls Try.prog 5 #[.string s] w (Ret11 s w) := by
  go_enter Try.func5, Try.ntmps5
  go_wp2_with (go_at_call 8; refine (key_any s _ hs).mono ?_; rintro e w' ⟨rfl, hb⟩)
  go_ret
  exact ret11 rfl ‹_›
end Go.Proofs.Ytbmidcahepfjeaa
