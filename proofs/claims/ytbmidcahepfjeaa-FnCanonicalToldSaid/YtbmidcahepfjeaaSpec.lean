/-
  spec.Canonical at every text of at most 2^31 - 1 bytes: the name as headers have it; nothing that was there has turned.
-/
import Derived.Test.YtbmidcahepfjeaaMime
namespace Go.Proofs.Ytbmidcahepfjeaa
open Go.RowKit
theorem canon_unnamed {l : List UInt8} (h : named l = false) : Pl.canon l = l := by
  unfold named at h
  cases l with
  | nil => rfl
  | cons b r =>
    unfold Pl.canon
    rw [show (b :: r).all Pl.tok = false from by simpa using h]
    rfl
theorem all_named {l : List UInt8} (h : named l = true) : l.all Pl.tok = true := by
  unfold named at h
  rw [Bool.and_eq_true] at h
  exact h.2
theorem part_stays {l : List UInt8} {m : Nat} (hm : m < l.length) (h : Pl.cn (Pl.first l m) (l.getD m 0) = l.getD m 0) : Pl.part l (m + 1) = Pl.part l m := by
  rw [Pl.part_succ l m hm, h]
  have hp := Pl.part_at l m hm
  have hl := Pl.length_part l m
  apply List.ext_getElem?
  intro j
  rw [List.getElem?_set]
  by_cases e : m = j
  · subst e
    rw [if_pos rfl, if_pos (by omega), Pl.getElem?_getD _ _ (by omega), hp]
  · rw [if_neg e]
set_option maxHeartbeats 4000000 in
theorem spec_any (s : ByteArray) (w : World) (hs : s.size ≤ 2147483647) : Calls Try.prog 6 #[.string s] w (Ret11 s w) := by
  have hL := Lib.hid (length_bs s)
  have hmx : s.size ≤ maxLen := by unfold maxLen; omega
  have hmx' := Lib.hid hmx
  clear hmx
  cases hnm : named (bs s) with
  | false =>
    have hR := Lib.hid (canonS_of (canon_unnamed hnm))
    have hnm' := Lib.hid hnm
    clear hnm
    go_enter Try.func6, Try.ntmps6
    go_wp2_with (go_at_call 9; refine (field_no hnm'.out _ hmx'.out).mono ?_; rintro e w' ⟨rfl, rfl⟩)
    go_ret
    exact ret11 hR.out.symm (Below.refl _ _)
  | true =>
    have hA := Lib.hid (all_named hnm)
    have hnm' := Lib.hid hnm
    clear hnm
    obtain ⟨cap, W1, hconv, hB, hW, _⟩ := conv_in w s
    have hB := Lib.hid hB
    have hW := Lib.hid hW
    go_enter Try.func6, Try.ntmps6
    go_wp2_with (go_at_call 9; refine (field_yes hnm'.out _ hmx'.out).mono ?_; rintro e w' ⟨rfl, rfl⟩)
    go_loopw [15] (fun i wr => ∃ m : Nat, m ≤ s.size ∧ i = .int .i64 m ∧ HasBytes wr w.heap.size (Pl.part (bs s) m) ∧ Below w.heap.size w wr) (fun i _ => s.size - (intOf i).toNat)
    case atStart => exact ⟨0, by omega, rfl, by rw [Pl.part_zero]; exact hB.out, hW.out⟩
    case round =>
      obtain ⟨m, hm, rfl, hb', hw'⟩ := hrel
      have hB' := Lib.hid hb'
      have hW' := Lib.hid hw'
      clear hb' hw' hconv
      by_cases hmk : m < s.size
      · obtain ⟨b, hbe⟩ : ∃ b, (bs s).getD m 0 = b := ⟨_, rfl⟩
        have hbe := Lib.hid hbe
        have hml : Hid (m < (bs s).length) := by show m < (bs s).length; rw [hL.out]; exact hmk
        have hc := hB'.out.cell (k := m) (by rw [Pl.length_part]; exact hml.out) b (by rw [Pl.part_at (bs s) m hml.out]; exact hbe.out)
        have hfz : wr.frozen? ⟨w.heap.size, m, none⟩ = false := hB'.out.2 m (by rw [Pl.length_part]; exact hml.out)
        by_cases hm0 : m = 0
        · subst hm0
          have hf : Pl.first (bs s) 0 = true := rfl
          by_cases hcl : (97 : Int) ≤ b.toNat ∧ (b.toNat : Int) ≤ 122
          · obtain ⟨h1, h2⟩ := hcl
            have hv := (cn_lower h1 h2).1
            have hS := Lib.hid (step15 hml.out hB'.out hW'.out ((b.toNat : Int) - 32) (by rw [hbe.out, hf]; exact hv))
            clear hv hf
            go_wp2
            go_roundw
            case rel => exact ⟨1, by omega, by first | rfl | go_num, hS.out.1, hS.out.2⟩
            case measure => simp [intOf]; omega
          · have hst : (b.toNat : Int) < 97 ∨ (122 : Int) < b.toNat := by omega
            clear hcl
            have hS := Lib.hid (part_stays (l := bs s) hml.out (by rw [hbe.out, hf, cn_true_stays hst]))
            clear hf
            rcases hst with hst | hst
            all_goals
              go_wp2
              go_roundw
              case rel => exact ⟨1, by omega, by first | rfl | go_num, by rw [hS.out]; exact hB'.out, hW'.out⟩
              case measure => simp [intOf]; omega
        · have hmz : ((m : Int) == 0) = false := by simp; omega
          have hm1 : 1 ≤ m := by omega
          obtain ⟨x, hx⟩ : ∃ x, (Pl.part (bs s) m).getD (m - 1) 0 = x := ⟨_, rfl⟩
          have hxc := hB'.out.cell (k := m - 1) (by rw [Pl.length_part]; have := hml.out; omega) x hx
          have hx45 : ((x.toNat : Int) == 45) = Pl.first (bs s) m := by rw [beq_45, ← hx]; exact Pl.part_before (bs s) m hml.out (by omega)
          clear hx hm0
          cases hf : Pl.first (bs s) m with
          | true =>
            rw [hf] at hx45
            by_cases hcl : (97 : Int) ≤ b.toNat ∧ (b.toNat : Int) ≤ 122
            · obtain ⟨h1, h2⟩ := hcl
              have hv := (cn_lower h1 h2).1
              have hS := Lib.hid (step15 hml.out hB'.out hW'.out ((b.toNat : Int) - 32) (by rw [hbe.out, hf]; exact hv))
              clear hv hf
              go_wp2
              go_roundw
              case rel => exact ⟨m + 1, by omega, by go_num, hS.out.1, hS.out.2⟩
              case measure => simp [intOf]; omega
            · have hst : (b.toNat : Int) < 97 ∨ (122 : Int) < b.toNat := by omega
              clear hcl
              have hS := Lib.hid (part_stays (l := bs s) hml.out (by rw [hbe.out, hf, cn_true_stays hst]))
              clear hf
              rcases hst with hst | hst
              all_goals
                go_wp2
                go_roundw
                case rel => exact ⟨m + 1, by omega, by go_num, by rw [hS.out]; exact hB'.out, hW'.out⟩
                case measure => simp [intOf]; omega
          | false =>
            rw [hf] at hx45
            by_cases hcl : (65 : Int) ≤ b.toNat ∧ (b.toNat : Int) ≤ 90
            · obtain ⟨h1, h2⟩ := hcl
              have hv := (cn_upper h1 h2).1
              have hS := Lib.hid (step15 hml.out hB'.out hW'.out ((b.toNat : Int) + 32) (by rw [hbe.out, hf]; exact hv))
              clear hv hf
              go_wp2
              go_roundw
              case rel => exact ⟨m + 1, by omega, by go_num, hS.out.1, hS.out.2⟩
              case measure => simp [intOf]; omega
            · have hst : (b.toNat : Int) < 65 ∨ (90 : Int) < b.toNat := by omega
              clear hcl
              have hS := Lib.hid (part_stays (l := bs s) hml.out (by rw [hbe.out, hf, cn_false_stays hst]))
              clear hf
              rcases hst with hst | hst
              all_goals
                go_wp2
                go_roundw
                case rel => exact ⟨m + 1, by omega, by go_num, by rw [hS.out]; exact hB'.out, hW'.out⟩
                case measure => simp [intOf]; omega
      · obtain rfl : m = s.size := by omega
        have hR0 : Pl.part (bs s) s.size = Pl.canon (bs s) := by
          unfold Pl.canon
          rw [hA.out, if_pos rfl, ← hL.out, Pl.part_all]
        have hR := Lib.hid hR0
        clear hR0
        have hcv := hB'.out.conv s.size cap (by rw [Pl.length_part]; exact hL.out)
        go_wp2
        go_ret
        exact ret11 (by unfold canonS; rw [hR.out]) hW'.out
end Go.Proofs.Ytbmidcahepfjeaa
