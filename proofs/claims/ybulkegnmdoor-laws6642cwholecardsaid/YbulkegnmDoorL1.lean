import Derived.Test.YbulkegnmDoorY
namespace Go.Proofs.YbulkegnmDoor
open Go Go.RowKit

/-- The cells of the script. -/
structure Scr (w : World) (aS : Option Addr) (ls : Nat) (sr : Nat → Int) (sa : Nat → Option Addr) (sl sc : Nat → Nat) (sz : Nat → Nat → Int) (sb : Nat → Bool) : Prop where
  at_ : 0 < ls → ∃ b o, aS = some ⟨b, o, none⟩ ∧ ∀ j, j < ls → w.cell? ⟨b, o + j * 3, none⟩ = some (.int .i64 (sr j)) ∧ w.cell? ⟨b, o + j * 3 + 1, none⟩ = some (.slice (sa j) (sl j) (sc j)) ∧ w.cell? ⟨b, o + j * 3 + 2, none⟩ = some (.bool (sb j))
  rd : ∀ j, j < ls → Reads w (sa j) (sl j) (sz j)
theorem Reads.old {w : World} {a : Option Addr} {l : Nat} {z : Nat → Int} (h : Reads w a l z) {w' : World} (t : Turn (fun b => w.heap.size ≤ b) w w') : Reads w' a l z := by
  intro hl
  obtain ⟨b, o, e, hc⟩ := h hl
  have := cell_below (hc 0 hl)
  refine ⟨b, o, e, fun j hj => t.cell (hc j hj) ?_⟩
  show ¬ (w.heap.size ≤ b)
  have : b < w.heap.size := this
  omega
/-- The number of arcs of the first m steps, and of first. -/
def tot (lf : Nat) (sl : Nat → Nat) : Nat → Nat
  | 0 => lf
  | m + 1 => tot lf sl m + sl m
theorem tot_mono (lf : Nat) (sl : Nat → Nat) {m n : Nat} (h : m ≤ n) : tot lf sl m ≤ tot lf sl n := by
  induction n with
  | zero => rw [show m = 0 by omega]; exact Nat.le_refl _
  | succ n ih =>
    by_cases e : m = n + 1
    · rw [e]; exact Nat.le_refl _
    · have := ih (by omega); simp only [tot]; omega
theorem tot_le (lf : Nat) (sl : Nat → Nat) (h0 : lf ≤ 17592186044416) (h : ∀ j, j < 64 → sl j ≤ 17592186044416) : ∀ m, m ≤ 64 → tot lf sl m ≤ (m + 1) * 17592186044416
  | 0, _ => by simpa [tot] using h0
  | m + 1, hm => by have := tot_le lf sl h0 h m (by omega); have := h m (by omega); simp only [tot]; omega

set_option maxHeartbeats 1000000 in
set_option maxRecDepth 100000 in
/-- More than 64 steps: true. -/
theorem law_big (aS : Option Addr) (ls cs : Nat) (sr : Nat → Int) (sa : Nat → Option Addr) (sl sc : Nat → Nat) (sz : Nat → Nat → Int) (sb : Nat → Bool) (root : Int) (aF : Option Addr) (lf cf : Nat) (stamp : Int) (w : World)
    (h : Scr w aS ls sr sa sl sc sz sb) (hb : 64 < ls) (hm : ls ≤ 9223372036854775807) :
    Calls Ybad.prog 4 #[.slice aS ls cs, .int .i64 root, .slice aF lf cf, .int .u32 stamp] w fun e w' => e = .returned (.bool true) ∧ Below w.heap.size w w' := by
  obtain ⟨b, o, rfl, hc⟩ := h.at_ (by omega)
  have HC : Hid (∀ j, j < ls → w.cell? ⟨b, o + j * 3, none⟩ = some (.int .i64 (sr j)) ∧ w.cell? ⟨b, o + j * 3 + 1, none⟩ = some (.slice (sa j) (sl j) (sc j)) ∧ w.cell? ⟨b, o + j * 3 + 2, none⟩ = some (.bool (sb j))) := hc
  have hd : decide ((64 : Int) < (ls : Int)) = true := by simp; omega
  clear h hc
  go_enter Ybad.func4, Ybad.ntmps4
  go_wp2_with fail
  go_loopg [9, 38] ls (fun gk s9 s38 wr => ∃ (m : Nat) (T : Int), m ≤ ls ∧ gk = ls - m ∧ s9 = .int .i64 T ∧ s38 = .int .i64 m ∧ wr = w)
  case atStart => exact ⟨0, _, by omega, rfl, rfl, rfl, rfl⟩
  case round =>
    obtain ⟨m, T, hmn, hgk, rfl, rfl, rfl⟩ := hrel
    by_cases hlt : m < ls
    · obtain ⟨_, c1, _⟩ := HC.out m hlt
      have i0 : (0 : Int) ≤ (m : Int) := by omega
      have i1 : (m : Int) < (ls : Int) := by omega
      go_wp2_with fail
      go_roundg (ls - (m + 1))
      case measure => omega
      case rel => exact ⟨m + 1, _, by omega, rfl, rfl, by go_num, rfl⟩
    · go_wp2_with fail
      go_ret
      exact ⟨rfl, Below.refl _ _⟩
end Go.Proofs.YbulkegnmDoor
