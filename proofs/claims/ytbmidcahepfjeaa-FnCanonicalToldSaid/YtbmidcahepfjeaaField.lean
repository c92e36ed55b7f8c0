/-
  spec.FieldName at every text: is it a name? No condition but the length that Go's own texts have.
-/
import Derived.Test.YtbmidcahepfjeaaSmall
namespace Go.Proofs.Ytbmidcahepfjeaa
open Go.RowKit
/-- A text's bytes. -/
abbrev bs (s : ByteArray) : List UInt8 := s.data.toList
theorem length_bs (s : ByteArray) : (bs s).length = s.size := Array.length_toList
theorem at_bs (s : ByteArray) (k : Nat) (h : k < s.size) : s[k] = (bs s).getD k 0 := by
  rw [List.getD_eq_getElem?_getD, List.getElem?_eq_getElem (by rw [length_bs]; exact h)]; rfl
/-- Is a text a name? -/
def named (l : List UInt8) : Bool := !l.isEmpty && l.all Pl.tok
def Toks (l : List UInt8) (k : Nat) : Prop := ∀ j, j < k → Pl.tok (l.getD j 0) = true
theorem toks_zero (l : List UInt8) : Toks l 0 := fun j hj => by omega
theorem toks_succ {l : List UInt8} {k : Nat} (h : Toks l k) (ht : Pl.tok (l.getD k 0) = true) : Toks l (k + 1) := fun j hj => by
  by_cases e : j = k
  · subst e; exact ht
  · exact h j (by omega)
theorem named_bad {l : List UInt8} {k : Nat} (hk : k < l.length) (h : Pl.tok (l.getD k 0) = false) : named l = false := by
  unfold named; rw [Pl.not_all hk h, Bool.and_false]
theorem named_all {l : List UInt8} (h : Toks l l.length) : named l = !l.isEmpty := by
  unfold named; rw [Pl.all_of_clean h, Bool.and_true]

set_option maxHeartbeats 400000 in
theorem field_any (s : ByteArray) (w : World) (hs : s.size ≤ maxLen) :
    Calls Try.prog 9 #[.string s] w fun e w' => e = .returned (.bool (named (bs s))) ∧ w = w' := by
  unfold maxLen at hs
  have hL := Lib.hid (length_bs s)
  go_enter Try.func9, Try.ntmps9
  go_wp2
  go_loop [6] (fun i => ∃ k : Nat, k ≤ s.size ∧ i = .int .i64 k ∧ Toks (bs s) k) (fun i => s.size - (intOf i).toNat)
  case atStart => exact ⟨0, by omega, rfl, toks_zero _⟩
  case round =>
    obtain ⟨k, hk, rfl, ht⟩ := hrel
    have hT := Lib.hid ht
    clear ht
    by_cases hlt : k < s.size
    · cases hb : Pl.tok s[k] with
      | true =>
        have hB := Lib.hid hb
        clear hb
        have hT' := Lib.hid (toks_succ hT.out (by rw [← at_bs s k hlt]; exact hB.out))
        go_wp2_with (go_at_call 12; refine (name_yes hB.out _).mono ?_; rintro e w' ⟨rfl, rfl⟩)
        go_round
        case rel => exact ⟨k + 1, by omega, by go_num, hT'.out⟩
        case measure => simp [intOf]; omega
      | false =>
        have hB := Lib.hid hb
        clear hb
        have hN := Lib.hid (named_bad (l := bs s) (by rw [hL.out]; exact hlt) (by rw [← at_bs s k hlt]; exact hB.out))
        go_wp2_with (go_at_call 12; refine (name_no hB.out _).mono ?_; rintro e w' ⟨rfl, rfl⟩)
        go_ret
        exact ⟨ret_bool hN.out.symm, rfl⟩
    · obtain rfl : k = s.size := by omega
      have hN := Lib.hid (named_all (l := bs s) (by rw [hL.out]; exact hT.out))
      go_wp2
      go_ret
      exact ⟨ret_bool (by rw [hN.out, ByteArray.toList_eq]), rfl⟩
theorem field_yes {s : ByteArray} (h : named (bs s) = true) (w : World) (hs : s.size ≤ maxLen) : Calls Try.prog 9 #[.string s] w fun e w' => e = .returned (.bool true) ∧ w = w' := h ▸ field_any s w hs
theorem field_no {s : ByteArray} (h : named (bs s) = false) (w : World) (hs : s.size ≤ maxLen) : Calls Try.prog 9 #[.string s] w fun e w' => e = .returned (.bool false) ∧ w = w' := h ▸ field_any s w hs
end Go.Proofs.Ytbmidcahepfjeaa
