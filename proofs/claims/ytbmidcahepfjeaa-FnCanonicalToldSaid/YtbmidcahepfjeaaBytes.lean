/-
  textproto.canonicalMIMEHeaderKey at bytes that lie in a row of their own: the name as headers have it; nothing below that row has turned. No condition but the length.
-/
import Derived.Test.YtbmidcahepfjeaaField
import Derived.Laws.IdiomStrings
namespace Go.Proofs.Ytbmidcahepfjeaa
open Go.RowKit
/-- Row B begins with the bytes l, and may be written there. -/
def HasBytes (w : World) (B : Nat) (l : List UInt8) : Prop :=
  (∀ j, j < l.length → w.cell? ⟨B, j, none⟩ = some (.int .u8 ((l.getD j 0).toNat : Int))) ∧ ∀ j, j < l.length → w.frozen? ⟨B, j, none⟩ = false
theorem HasBytes.conv {w : World} {B : Nat} {l : List UInt8} (h : HasBytes w B l) (n cap : Nat) (hn : l.length = n) :
    (convert 25 9 (.slice (some ⟨B, 0, none⟩) n cap)).run Try.prog w = .ok (.string ⟨l.toArray⟩) w := by
  subst hn
  refine run_convert_bytes_back w 25 9 5 ⟨B, 0, none⟩ cap l Try.underlying25 Try.underlying5 Try.underlying9 fun j hj => ?_
  have := h.1 j hj
  rw [List.getD_eq_getElem?_getD, List.getElem?_eq_getElem hj] at this
  have e : (⟨B, 0, none⟩ : Addr).add j = ⟨B, j, none⟩ := by unfold Addr.add; split <;> simp_all
  rw [e]; exact this
theorem HasBytes.set {w : World} {B : Nat} {l : List UInt8} (h : HasBytes w B l) {k : Nat} (hk : k < l.length) (b : UInt8) (v : Int) (hv : v = (b.toNat : Int)) :
    HasBytes (w.setCell ⟨B, k, none⟩ (.int .u8 v)) B (l.set k b) := by
  subst hv
  constructor
  · intro j hj
    rw [List.length_set] at hj
    rw [List.getD_eq_getElem?_getD, List.getElem?_set]
    by_cases e : k = j
    · subst e
      rw [if_pos rfl, if_pos hk]
      exact World.cell?_setCell_same w _ _ (h.1 k hk)
    · rw [if_neg e, World.cell?_setCell_other _ _ _ _ (fun e' => e (by injection e')), h.1 j hj, List.getD_eq_getElem?_getD]
  · intro j hj
    rw [List.length_set] at hj
    rw [World.frozen?_setCell]
    exact h.2 j hj

/-- Has a blank been met among the first k? -/
def spaced (l : List UInt8) (k : Nat) : Bool := (l.take k).any (· == 32)
/-- Among the first k: bytes of names and blanks alone. -/
def Nearly (l : List UInt8) (k : Nat) : Prop := ∀ j, j < k → Pl.tok (l.getD j 0) = true ∨ l.getD j 0 = 32
theorem nearly_zero (l : List UInt8) : Nearly l 0 := fun j hj => by omega
theorem nearly_succ {l : List UInt8} {k : Nat} (h : Nearly l k) (ht : Pl.tok (l.getD k 0) = true ∨ l.getD k 0 = 32) : Nearly l (k + 1) := fun j hj => by
  by_cases e : j = k
  · subst e; exact ht
  · exact h j (by omega)
theorem spaced_succ (l : List UInt8) (k : Nat) (hk : k < l.length) : spaced l (k + 1) = (spaced l k || l.getD k 0 == 32) := by
  unfold spaced
  rw [List.take_succ_eq_append_getElem hk, List.any_append, List.getD_eq_getElem?_getD, List.getElem?_eq_getElem hk]
  simp
theorem tok_32 : Pl.tok 32 = false := by decide
theorem spaced_tok {l : List UInt8} {k : Nat} (hk : k < l.length) (h : Pl.tok (l.getD k 0) = true) : spaced l (k + 1) = spaced l k := by
  rw [spaced_succ l k hk]
  cases hb : (l.getD k 0 == 32) with
  | false => rw [Bool.or_false]
  | true => rw [eq_of_beq hb, tok_32] at h; cases h
theorem spaced_32 {l : List UInt8} {k : Nat} (hk : k < l.length) (h : l.getD k 0 = 32) : spaced l (k + 1) = true := by
  rw [spaced_succ l k hk, h]; simp
/-- A blank among them: no name. -/
theorem canon_spaced {l : List UInt8} (h : spaced l l.length = true) : Pl.canon l = l := by
  unfold spaced at h
  rw [List.take_length, List.any_eq_true] at h
  obtain ⟨x, hx, hb⟩ := h
  unfold Pl.canon
  have : l.all Pl.tok = false := by
    rw [List.all_eq_false]
    exact ⟨x, hx, by rw [eq_of_beq hb, tok_32]; decide⟩
  rw [this]; rfl
/-- None: all are bytes of names. -/
theorem all_nearly {l : List UInt8} (h : Nearly l l.length) (hs : spaced l l.length = false) : l.all Pl.tok = true := by
  refine Pl.all_of_clean fun j hj => ?_
  rcases h j hj with h | h
  · exact h
  · exfalso
    unfold spaced at hs
    rw [List.take_length, List.any_eq_false] at hs
    refine hs (l.getD j 0) ?_ (by rw [h]; decide)
    rw [List.getD_eq_getElem?_getD, List.getElem?_eq_getElem hj]
    exact List.getElem_mem hj

/-- What the function that may write its bytes hands back. -/
def Ret15 (l : List UInt8) (B : Nat) (w : World) (e : Ending) (w' : World) : Prop :=
  ∃ o : Bool, e = .returned (.tuple #[.string ⟨(Pl.canon l).toArray⟩, .bool o]) ∧ Below B w w'
theorem ret15 {l m : List UInt8} {B : Nat} {w w' : World} (o : Bool) (h : m = Pl.canon l) (hb : Below B w w') :
    Ret15 l B w (.returned (.tuple #[.string ⟨m.toArray⟩, .bool o])) w' := ⟨o, by rw [h], hb⟩

theorem HasBytes.cell {w : World} {B : Nat} {l : List UInt8} (h : HasBytes w B l) {k : Nat} (hk : k < l.length) (b : UInt8) (hb : l.getD k 0 = b) : w.cell? ⟨B, k, none⟩ = some (.int .u8 (b.toNat : Int)) := hb ▸ h.1 k hk

theorem first_succ (l : List UInt8) (m : Nat) : Pl.first l (m + 1) = (l.getD m 0 == 45) := by
  unfold Pl.first
  have : (m + 1 == 0) = false := by simp
  rw [this, Bool.false_or, Nat.add_sub_cancel]
theorem beq_45 (b : UInt8) : ((b.toNat : Int) == 45) = (b == 45) := by
  revert b; refine Pl.forall_byte ?_; decide +kernel
theorem cn_lower {b : UInt8} (h1 : (97 : Int) ≤ b.toNat) (h2 : (b.toNat : Int) ≤ 122) : (b.toNat : Int) - 32 = ((Pl.cn true b).toNat : Int) ∧ (((b.toNat : Int) - 32 == 45) = (b == 45)) := by
  have : ∀ b : UInt8, (97 : Int) ≤ b.toNat → (b.toNat : Int) ≤ 122 → (b.toNat : Int) - 32 = ((Pl.cn true b).toNat : Int) ∧ (((b.toNat : Int) - 32 == 45) = (b == 45)) := by
    refine Pl.forall_byte ?_; decide +kernel
  exact this b h1 h2
theorem cn_upper {b : UInt8} (h1 : (65 : Int) ≤ b.toNat) (h2 : (b.toNat : Int) ≤ 90) : (b.toNat : Int) + 32 = ((Pl.cn false b).toNat : Int) ∧ (((b.toNat : Int) + 32 == 45) = (b == 45)) := by
  have : ∀ b : UInt8, (65 : Int) ≤ b.toNat → (b.toNat : Int) ≤ 90 → (b.toNat : Int) + 32 = ((Pl.cn false b).toNat : Int) ∧ (((b.toNat : Int) + 32 == 45) = (b == 45)) := by
    refine Pl.forall_byte ?_; decide +kernel
  exact this b h1 h2
theorem cn_true_stays {b : UInt8} (h : (b.toNat : Int) < 97 ∨ (122 : Int) < b.toNat) : Pl.cn true b = b := by
  have : ∀ b : UInt8, ((b.toNat : Int) < 97 ∨ (122 : Int) < b.toNat) → Pl.cn true b = b := by
    refine Pl.forall_byte ?_; decide +kernel
  exact this b h
theorem cn_false_stays {b : UInt8} (h : (b.toNat : Int) < 65 ∨ (90 : Int) < b.toNat) : Pl.cn false b = b := by
  have : ∀ b : UInt8, ((b.toNat : Int) < 65 ∨ (90 : Int) < b.toNat) → Pl.cn false b = b := by
    refine Pl.forall_byte ?_; decide +kernel
  exact this b h
/-- One round of the writing loop: what is stored is the written byte. -/
theorem step15 {l : List UInt8} {B m : Nat} {w wr : World} (hk : m < l.length) (hb : HasBytes wr B (Pl.part l m)) (hw : Below B w wr) (v : Int) (hv : v = ((Pl.cn (Pl.first l m) (l.getD m 0)).toNat : Int)) :
    HasBytes (wr.setCell ⟨B, m, none⟩ (.int .u8 v)) B (Pl.part l (m + 1)) ∧ Below B w (wr.setCell ⟨B, m, none⟩ (.int .u8 v)) := by
  rw [Pl.part_succ l m hk]
  exact ⟨hb.set (by rw [Pl.length_part]; exact hk) _ v hv, hw.setCell (p := ⟨B, m, none⟩) (Nat.le_refl _) _⟩

set_option maxHeartbeats 4000000 in
theorem canon_bytes (B n cap : Nat) (l : List UInt8) (w : World) (hl : l.length = n) (hn : n ≤ 2147483647) (hb : HasBytes w B l) :
    Calls Try.prog 15 #[.slice (some ⟨B, 0, none⟩) n cap] w (Ret15 l B w) := by
  have hL := Lib.hid hl
  have hB := Lib.hid hb
  have hcv := hb.conv n cap hl
  clear hl hb
  by_cases h0 : n = 0
  · subst h0
    have hz : l = [] := List.length_eq_zero_iff.1 hL.out
    subst hz
    clear hcv
    go_enter Try.func15, Try.ntmps15
    go_wp2
    go_ret2
    exact ret15 (m := []) false rfl (Below.refl _ _)
  have hn0 : ((n : Int) == 0) = false := by simp; omega
  clear h0
  go_enter Try.func15, Try.ntmps15
  go_wp2
  go_loop [4, 15] (fun nc i => ∃ k : Nat, k ≤ n ∧ i = .int .i64 k ∧ nc = .bool (spaced l k) ∧ Nearly l k) (fun _ i => n - (intOf i).toNat)
  case atStart => exact ⟨0, by omega, rfl, rfl, nearly_zero l⟩
  case round =>
    obtain ⟨k, hk, rfl, rfl, hN⟩ := hrel
    have hN := Lib.hid hN
    by_cases hlt : k < n
    · obtain ⟨b, hbe⟩ : ∃ b, l.getD k 0 = b := ⟨_, rfl⟩
      have hbe := Lib.hid hbe
      have hc := hB.out.cell (k := k) (by rw [hL.out]; exact hlt) b hbe.out
      cases ht : Pl.tok b with
      | true =>
        have hT := Lib.hid ht
        clear ht
        have hS := Lib.hid (spaced_tok (l := l) (k := k) (by rw [hL.out]; exact hlt) (by rw [hbe.out]; exact hT.out))
        have hN' := Lib.hid (nearly_succ hN.out (.inl (by rw [hbe.out]; exact hT.out)))
        go_wp2_with (go_at_call 14; refine (valid_yes hT.out _).mono ?_; rintro e w' ⟨rfl, rfl⟩)
        go_round
        case rel => exact ⟨k + 1, by omega, by go_num, by rw [hS.out], hN'.out⟩
        case measure => simp [intOf]; omega
      | false =>
        have hT := Lib.hid ht
        clear ht
        by_cases h32 : b = 32
        · have hS := Lib.hid (spaced_32 (l := l) (k := k) (by rw [hL.out]; exact hlt) (by rw [hbe.out]; exact h32))
          have hN' := Lib.hid (nearly_succ hN.out (.inr (by rw [hbe.out]; exact h32)))
          have hq : ((b.toNat : Int) == 32) = true := by rw [h32]; decide
          clear h32
          go_wp2_with (go_at_call 14; refine (valid_no hT.out _).mono ?_; rintro e w' ⟨rfl, rfl⟩)
          go_round
          case rel => exact ⟨k + 1, by omega, by go_num, by rw [hS.out], hN'.out⟩
          case measure => simp [intOf]; omega
        · have hq : ((b.toNat : Int) == 32) = false := by
            simp only [beq_eq_false_iff_ne, ne_eq]
            intro h
            exact h32 (UInt8.toNat_inj.1 (by show b.toNat = 32; omega))
          clear h32
          have hR := Lib.hid (Pl.canon_bad (l := l) (k := k) (by rw [hL.out]; exact hlt) (by rw [hbe.out]; exact hT.out))
          go_wp2_with (go_at_call 14; refine (valid_no hT.out _).mono ?_; rintro e w' ⟨rfl, rfl⟩)
          go_ret2
          exact ret15 false hR.out.symm (Below.refl _ _)
    · obtain rfl : k = n := by omega
      cases hs : spaced l k with
      | true =>
        have hR := Lib.hid (canon_spaced (l := l) (by rw [hL.out]; exact hs))
        go_wp2
        go_ret2
        exact ret15 true hR.out.symm (Below.refl _ _)
      | false =>
        have hA := Lib.hid (all_nearly (l := l) (by rw [hL.out]; exact hN.out) (by rw [hL.out]; exact hs))
        go_wp2
        clear hcv hs hN
        go_loopw [7, 31] (fun u i wr => ∃ m : Nat, m ≤ k ∧ i = .int .i64 m ∧ u = .bool (Pl.first l m) ∧ HasBytes wr B (Pl.part l m) ∧ Below B w wr) (fun _ i _ => k - (intOf i).toNat)
        case atStart => exact ⟨0, by omega, rfl, rfl, by rw [Pl.part_zero]; exact hB.out, Below.refl _ _⟩
        case round =>
          obtain ⟨m, hm, rfl, rfl, hb', hw'⟩ := hrel
          have hB' := Lib.hid hb'
          have hW' := Lib.hid hw'
          clear hb' hw'
          by_cases hmk : m < k
          · obtain ⟨b, hbe⟩ : ∃ b, l.getD m 0 = b := ⟨_, rfl⟩
            have hbe := Lib.hid hbe
            have hml : Hid (m < l.length) := by show m < l.length; rw [hL.out]; exact hmk
            have hc := hB'.out.cell (k := m) (by rw [Pl.length_part]; exact hml.out) b (by rw [Pl.part_at l m hml.out]; exact hbe.out)
            have hfz : wr.frozen? ⟨B, m, none⟩ = false := hB'.out.2 m (by rw [Pl.length_part]; exact hml.out)
            have hfs : (b == 45) = Pl.first l (m + 1) := by rw [first_succ, hbe.out]
            cases hf : Pl.first l m with
            | true =>
              by_cases hcl : (97 : Int) ≤ b.toNat ∧ (b.toNat : Int) ≤ 122
              · obtain ⟨h1, h2⟩ := hcl
                have hv := (cn_lower h1 h2).1
                have hS := Lib.hid (step15 hml.out hB'.out hW'.out ((b.toNat : Int) - 32) (by rw [hbe.out, hf]; exact hv))
                have hq := (cn_lower h1 h2).2.trans hfs
                clear hv hfs
                go_wp2
                go_roundw
                case rel => exact ⟨m + 1, by omega, by go_num, rfl, hS.out.1, hS.out.2⟩
                case measure => simp [intOf]; omega
              · have hst : (b.toNat : Int) < 97 ∨ (122 : Int) < b.toNat := by omega
                clear hcl
                have hS := Lib.hid (step15 hml.out hB'.out hW'.out (b.toNat : Int) (by rw [hbe.out, hf, cn_true_stays hst]))
                have hq := (beq_45 b).trans hfs
                clear hfs
                rcases hst with hst | hst
                all_goals
                  go_wp2
                  go_roundw
                  case rel => exact ⟨m + 1, by omega, by go_num, rfl, hS.out.1, hS.out.2⟩
                  case measure => simp [intOf]; omega
            | false =>
              by_cases hcl : (65 : Int) ≤ b.toNat ∧ (b.toNat : Int) ≤ 90
              · obtain ⟨h1, h2⟩ := hcl
                have hv := (cn_upper h1 h2).1
                have hS := Lib.hid (step15 hml.out hB'.out hW'.out ((b.toNat : Int) + 32) (by rw [hbe.out, hf]; exact hv))
                have hq := (cn_upper h1 h2).2.trans hfs
                clear hv hfs
                go_wp2
                go_roundw
                case rel => exact ⟨m + 1, by omega, by go_num, rfl, hS.out.1, hS.out.2⟩
                case measure => simp [intOf]; omega
              · have hst : (b.toNat : Int) < 65 ∨ (90 : Int) < b.toNat := by omega
                clear hcl
                have hS := Lib.hid (step15 hml.out hB'.out hW'.out (b.toNat : Int) (by rw [hbe.out, hf, cn_false_stays hst]))
                have hq := (beq_45 b).trans hfs
                clear hfs
                rcases hst with hst | hst
                all_goals
                  go_wp2
                  go_roundw
                  case rel => exact ⟨m + 1, by omega, by go_num, rfl, hS.out.1, hS.out.2⟩
                  case measure => simp [intOf]; omega
          · obtain rfl : m = k := by omega
            have hR0 : Pl.part l m = Pl.canon l := by
              unfold Pl.canon
              rw [hA.out, if_pos rfl, ← hL.out, Pl.part_all]
            have hR := Lib.hid hR0
            clear hR0
            have hcv := hB'.out.conv m cap (by rw [Pl.length_part]; exact hL.out)
            go_wp2
            go_ret2
            exact ret15 true hR.out hW'.out
end Go.Proofs.Ytbmidcahepfjeaa
