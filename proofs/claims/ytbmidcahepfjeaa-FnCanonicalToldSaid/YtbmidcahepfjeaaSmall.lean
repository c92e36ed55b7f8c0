/-
  The walks of the small functions: a byte of a name by the mask of 128 signs and by the switch and its table; a byte that is white space; one that ends a tag. No condition but that a byte is one.
-/
import Derived.Test.YtbmidcahepfjeaaRows
import Derived.Test.YtbmidcahepfjeaaPlain
import Derived.WalkKit
import Derived.WalkSpells
import Derived.WalkLawsBesides
import Derived.Lib.Hide
namespace Go.Proofs.Ytbmidcahepfjeaa
open Go.RowKit
theorem ret_bool {a b : Bool} (h : a = b) : Ending.returned (.bool a) = .returned (.bool b) := by rw [h]
/-- The table, said of numbers. -/
def tokN (c : Nat) : Bool := Pl.tok (UInt8.ofNat c)
def noWord (c : Nat) : Bool := c < 48 || (57 < c && c < 65) || (90 < c && c < 97) || 122 < c
theorem tokN_yes {c : Nat} (h : c < 256) (k : noWord c = false) : tokN c = true := by
  have : ∀ n : Fin 256, noWord n.val = false → tokN n.val = true := by decide +kernel
  exact this ⟨c, h⟩ k
def marks : List Nat := [33, 35, 36, 37, 38, 39, 42, 43, 45, 46, 94, 95, 96, 124, 126]
def Miss (c k : Nat) : Prop := ∀ j, j < k → marks[j]? ≠ some c
theorem miss_zero (c : Nat) : Miss c 0 := fun j hj => by omega
theorem tokN_no {c : Nat} (h : c < 256) (k : noWord c = true) (m : Miss c 15) : tokN c = false := by
  have : ∀ n : Fin 256, noWord n.val = true → marks.contains n.val = false → tokN n.val = false := by decide +kernel
  refine this ⟨c, h⟩ k ?_
  cases hc : marks.contains c with
  | false => rfl
  | true =>
    obtain ⟨j, hj, e⟩ := List.getElem_of_mem (List.contains_iff_mem.1 hc)
    exact absurd (by rw [List.getElem?_eq_getElem hj, e]) (m j hj)
theorem mark_at (k : Nat) (hk : k < 15) (hs : k < (ByteArray.mk #[33, 35, 36, 37, 38, 39, 42, 43, 45, 46, 94, 95, 96, 124, 126]).size) :
    marks[k]? = some (ByteArray.mk #[33, 35, 36, 37, 38, 39, 42, 43, 45, 46, 94, 95, 96, 124, 126])[k].toNat := by
  have : ∀ n : Fin 15, marks[n.val]? = some (((ByteArray.mk #[33, 35, 36, 37, 38, 39, 42, 43, 45, 46, 94, 95, 96, 124, 126]).data[n.val]?).getD 0).toNat := by decide +kernel
  have h := this ⟨k, hk⟩
  have e : (ByteArray.mk #[33, 35, 36, 37, 38, 39, 42, 43, 45, 46, 94, 95, 96, 124, 126]).data[k]? = some (ByteArray.mk #[33, 35, 36, 37, 38, 39, 42, 43, 45, 46, 94, 95, 96, 124, 126])[k] := Array.getElem?_eq_getElem hs
  rw [e] at h
  exact h
theorem tokN_mark {c k : Nat} (h : marks[k]? = some c) : tokN c = true := by
  have : ∀ n ∈ marks, tokN n = true := by decide +kernel
  exact this c (List.mem_of_getElem? h)
theorem tokN_hit {c k : Nat} (hk : k < 15) (hs : k < (ByteArray.mk #[33, 35, 36, 37, 38, 39, 42, 43, 45, 46, 94, 95, 96, 124, 126]).size)
    (h : ((c : Int) == ((ByteArray.mk #[33, 35, 36, 37, 38, 39, 42, 43, 45, 46, 94, 95, 96, 124, 126])[k].toNat : Int)) = true) : tokN c = true := by
  refine tokN_mark (k := k) ?_
  rw [mark_at k hk hs]
  congr 1
  have := eq_of_beq h
  omega
theorem miss_succ {c k : Nat} (hk : k < 15) (m : Miss c k) (hs : k < (ByteArray.mk #[33, 35, 36, 37, 38, 39, 42, 43, 45, 46, 94, 95, 96, 124, 126]).size)
    (h : ((c : Int) == ((ByteArray.mk #[33, 35, 36, 37, 38, 39, 42, 43, 45, 46, 94, 95, 96, 124, 126])[k].toNat : Int)) = false) : Miss c (k + 1) := fun j hj => by
  by_cases e : j = k
  · subst e
    rw [mark_at j hk hs]
    intro h'
    simp only [Option.some.injEq] at h'
    rw [h'] at h
    simp at h
  · exact m j (by omega)
set_option maxHeartbeats 1000000 in
theorem name_any (c : Nat) (hlt : c < 256) (w : World) :
    Calls Try.prog 12 #[.int .u8 (c : Int)] w fun e w' => e = .returned (.bool (tokN c)) ∧ w = w' := by
  have hy := Lib.hid (fun (k : noWord c = false) => tokN_yes hlt k)
  have hn := Lib.hid (fun (k : noWord c = true) => tokN_no hlt k)
  by_cases h1 : 97 ≤ c ∧ c ≤ 122
  · have ht := Lib.hid (hy.out (by simp [noWord]; omega))
    obtain ⟨_, _⟩ := h1
    go_enter Try.func12, Try.ntmps12
    go_wp2
    go_ret
    exact ⟨ret_bool ht.out.symm, rfl⟩
  by_cases h2 : 65 ≤ c ∧ c ≤ 90
  · have ht := Lib.hid (hy.out (by simp [noWord]; omega))
    obtain ⟨_, _⟩ := h2
    go_enter Try.func12, Try.ntmps12
    go_wp2
    go_ret
    exact ⟨ret_bool ht.out.symm, rfl⟩
  by_cases h3 : 48 ≤ c ∧ c ≤ 57
  · have ht := Lib.hid (hy.out (by simp [noWord]; omega))
    obtain ⟨_, _⟩ := h3
    go_enter Try.func12, Try.ntmps12
    go_wp2
    go_ret
    exact ⟨ret_bool ht.out.symm, rfl⟩
  have hN := Lib.hid (hn.out (by simp [noWord]; omega))
  have h : c < 48 ∨ (57 < c ∧ c < 65) ∨ (90 < c ∧ c < 97) ∨ 122 < c := by omega
  clear hy hn h1 h2 h3
  rcases h with h | ⟨h, h'⟩ | ⟨h, h'⟩ | h
  all_goals
    go_enter Try.func12, Try.ntmps12
    go_wp2
    go_loop [23] (fun i => ∃ k : Nat, k ≤ 15 ∧ i = .int .i64 k ∧ Miss c k) (fun i => 15 - (intOf i).toNat)
    case atStart => exact ⟨0, by omega, rfl, miss_zero c⟩
    case round =>
      obtain ⟨k, hk, rfl, hm⟩ := hrel
      have hM := Lib.hid hm
      clear hm
      by_cases hk15 : k < 15
      · go_wp2
        · have ht : ((c : Int) == ((ByteArray.mk #[33, 35, 36, 37, 38, 39, 42, 43, 45, 46, 94, 95, 96, 124, 126])[k].toNat : Int)) = true := by assumption
          go_ret
          exact ⟨ret_bool (tokN_hit hk15 _ ht).symm, rfl⟩
        · have ht : ((c : Int) == ((ByteArray.mk #[33, 35, 36, 37, 38, 39, 42, 43, 45, 46, 94, 95, 96, 124, 126])[k].toNat : Int)) = false := by assumption
          have hM' := Lib.hid (miss_succ hk15 hM.out _ ht)
          go_round
          case rel => exact ⟨k + 1, by omega, by go_num, hM'.out⟩
          case measure => simp [intOf]; omega
      · go_wp2
        go_ret
        obtain rfl : k = 15 := by omega
        exact ⟨ret_bool (hN.out hM.out).symm, rfl⟩
/-- The mask of 128 signs is the table of the signs of names. -/
theorem tok_mask (c m : Nat) (hc : c < 256) (hm : m = (c + 192) % 256) :
    (bits BinOp.or IntKind.u64 (bits BinOp.and IntKind.u64 (IntKind.u64.wrap (2 ^ min c 64)) 288068722172624896) (bits BinOp.and IntKind.u64 (IntKind.u64.wrap (2 ^ min m 64)) 6341068274398134270) != 0) = Pl.tok (UInt8.ofNat c) := by
  subst hm
  have h : ∀ n : Fin 256, (bits BinOp.or IntKind.u64 (bits BinOp.and IntKind.u64 (IntKind.u64.wrap (2 ^ min n.val 64)) 288068722172624896) (bits BinOp.and IntKind.u64 (IntKind.u64.wrap (2 ^ min ((n.val + 192) % 256) 64)) 6341068274398134270) != 0) = Pl.tok (UInt8.ofNat n.val) := by
    decide +kernel
  exact h ⟨c, hc⟩
set_option maxHeartbeats 400000 in
theorem valid_any (b : UInt8) (w : World) :
    Calls Try.prog 14 #[.int .u8 (b.toNat : Int)] w fun e w' => e = .returned (.bool (Pl.tok b)) ∧ w = w' := by
  obtain ⟨c, hc⟩ : ∃ c : Nat, c = b.toNat := ⟨_, rfl⟩
  have hb : b = UInt8.ofNat c := by rw [hc]; simp
  have hlt : c < 256 := by rw [hc]; exact b.toNat_lt
  rw [← hc, hb]
  clear hc hb
  obtain ⟨m, hm⟩ : ∃ m : Nat, m = (c + 192) % 256 := ⟨_, rfl⟩
  have hmi : ((c : Int) - 64) % 256 = (m : Int) := by omega
  have hM := Lib.hid (tok_mask c m hlt hm)
  clear hm
  go_enter Try.func14, Try.ntmps14
  go_wp2
  go_ret
  exact ⟨ret_bool hM.out, rfl⟩
theorem valid_yes {b : UInt8} (h : Pl.tok b = true) (w : World) : Calls Try.prog 14 #[.int .u8 (b.toNat : Int)] w fun e w' => e = .returned (.bool true) ∧ w = w' := h ▸ valid_any b w
theorem valid_no {b : UInt8} (h : Pl.tok b = false) (w : World) : Calls Try.prog 14 #[.int .u8 (b.toNat : Int)] w fun e w' => e = .returned (.bool false) ∧ w = w' := h ▸ valid_any b w
set_option maxHeartbeats 400000 in
theorem tt_62 (w : World) :
    Calls Try.prog 34 #[.int .u8 62] w fun e w' => e = .returned (.bool true) ∧ w = w' := by
  go_enter Try.func34, Try.ntmps34
  go_wp2
  go_ret
  exact ⟨rfl, rfl⟩
set_option maxHeartbeats 400000 in
theorem ws_60 (w : World) :
    Calls Try.prog 16 #[.int .u8 60] w fun e w' => e = .returned (.bool false) ∧ w = w' := by
  go_enter Try.func16, Try.ntmps16
  go_wp2
  go_ret
  exact ⟨rfl, rfl⟩
theorem tokN_toNat (b : UInt8) : tokN b.toNat = Pl.tok b := by unfold tokN; simp
theorem name_yes {b : UInt8} (h : Pl.tok b = true) (w : World) : Calls Try.prog 12 #[.int .u8 (b.toNat : Int)] w fun e w' => e = .returned (.bool true) ∧ w = w' := by
  have := name_any b.toNat b.toNat_lt w
  rwa [tokN_toNat, h] at this
theorem name_no {b : UInt8} (h : Pl.tok b = false) (w : World) : Calls Try.prog 12 #[.int .u8 (b.toNat : Int)] w fun e w' => e = .returned (.bool false) ∧ w = w' := by
  have := name_any b.toNat b.toNat_lt w
  rwa [tokN_toNat, h] at this
end Go.Proofs.Ytbmidcahepfjeaa
