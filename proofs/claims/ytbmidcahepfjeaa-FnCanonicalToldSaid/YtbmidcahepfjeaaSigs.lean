/-
  wire.sniffSignatures: it hands back a slice of 51 marks in new memory, whose first two are those of '<!DOCTYPE HTML' and '<HTML'; nothing that was there has turned. No condition.
-/
import Derived.Test.YtbmidcahepfjeaaRows
import Derived.WalkKit
import Derived.WalkSpells
import Derived.WalkLawsBesides
import Derived.Lib.SlBytesConst
namespace Go.Proofs.Ytbmidcahepfjeaa
open Go.RowKit

theorem run_conv {P : Program} (t e : TypeId) (ht : P.underlying t = some (.slice e)) (he : P.underlying e = some (.int .u8)) (w : World) (k : Nat) (C : Array Value) (n c : Nat) (hk : w.heap.size = k) :
    (convert t t (.slice (some ⟨k, 0, none⟩) n c)).run P (w.alloc (.cells C e)) = .ok (.slice (some ⟨k, 0, none⟩) n c) (w.alloc (.cells C e (C.size, C.size + 1))) := by
  subst hk
  exact Lib.run_convert_bytes_const w t e C n c ht he

/-- The bytes of '<!DOCTYPE HTML' and of '<HTML'. -/
def cellsA : Array Value := #[.int .u8 60, .int .u8 33, .int .u8 68, .int .u8 79, .int .u8 67, .int .u8 84, .int .u8 89, .int .u8 80, .int .u8 69, .int .u8 32, .int .u8 72, .int .u8 84, .int .u8 77, .int .u8 76]
def cellsB : Array Value := #[.int .u8 60, .int .u8 72, .int .u8 84, .int .u8 77, .int .u8 76]

/-- What the table of the marks is good for. -/
def SigsPost (w : World) (e : Ending) (w' : World) : Prop :=
  ∃ k : Nat, e = .returned (.slice (some ⟨k, 0, none⟩) 51 51) ∧
    w'.cell? ⟨k, 0, none⟩ = some (.iface 36 (.slice (some ⟨w.heap.size, 0, none⟩) 14 14)) ∧
    w'.cell? ⟨k, 1, none⟩ = some (.iface 36 (.slice (some ⟨w.heap.size + 1, 0, none⟩) 5 5)) ∧
    (∀ j, w'.cell? ⟨w.heap.size + 1, j, none⟩ = cellsB[j]?) ∧ Below w.heap.size w w'

theorem below_new {B : Nat} {a w : World} (h : Below B a w) (hB : B ≤ a.heap.size) (o : Obj) : Below B a (w.alloc o) := h.alloc (Nat.le_trans hB h.size) o

theorem sigs_fin (w W : World) (C : Array Value) (k : Nat) (hk : W.heap.size = k)
    (hB : Below (w.heap.size + 2) ((w.alloc (.cells cellsA 5 (14, 15))).alloc (.cells cellsB 5 (5, 6))) W)
    (h0 : C[0]? = some (.iface 36 (.slice (some ⟨w.heap.size, 0, none⟩) 14 14))) (h1 : C[1]? = some (.iface 36 (.slice (some ⟨w.heap.size + 1, 0, none⟩) 5 5))) :
    SigsPost w (.returned (.slice (some ⟨k, 0, none⟩) 51 51)) (W.alloc (.cells C 33)) := by
  subst hk
  have h2 : Below w.heap.size w ((w.alloc (.cells cellsA 5 (14, 15))).alloc (.cells cellsB 5 (5, 6))) := ((Below.refl _ _).alloc (Nat.le_refl _) _).alloc (by simp) _
  have hsz := hB.size
  simp only [World.size_alloc] at hsz
  refine ⟨W.heap.size, rfl, ?_, ?_, fun j => ?_, (h2.trans (hB.mono (by omega))).alloc (by omega) _⟩
  · rw [World.cell?_alloc_mark]; exact h0
  · rw [World.cell?_alloc_mark]; exact h1
  · rw [World.cell?_alloc_lt _ _ _ (by show w.heap.size + 1 < W.heap.size; omega), hB.cell (p := ⟨w.heap.size + 1, j, none⟩) (by show w.heap.size + 1 < w.heap.size + 2; omega)]
    have := World.cell?_alloc_mark (w.alloc (.cells cellsA 5 (14, 15))) cellsB 5 (5, 6) j
    rw [World.size_alloc] at this
    exact this

set_option maxRecDepth 100000 in
set_option maxHeartbeats 40000000 in
theorem sigs_any (w : World) : Calls Try.prog 17 #[] w (SigsPost w) := by
  have k36 := run_conv (P := Try.prog) 36 5 (by kernel_rfl) Try.underlying5
  have k25 := run_conv (P := Try.prog) 25 5 Try.underlying25 Try.underlying5
  go_enter Try.func17, Try.ntmps17
  go_wp2
  go_ret
  clear k36 k25
  refine sigs_fin w _ _ _ ?_ ?_ rfl rfl
  · simp only [World.size_alloc]
  · iterate 91 (refine below_new ?_ (by simp only [World.size_alloc]; omega) _)
    exact Below.refl _ _
end Go.Proofs.Ytbmidcahepfjeaa
