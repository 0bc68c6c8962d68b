/-
  The conversions on this program's types; the cells of a list of fields.
-/
import Derived.Test.YbulkalheRows
import Derived.Test.YbulkalhePlain
import Derived.Test.YbulkalheUtf
import Derived.WalkKit
import Derived.ProofKit
import Derived.Below
import Derived.WalkSpells
namespace Go.Proofs.Ybulkalhe
open Go.RowKit

theorem Yba.info21 : (Yba.prog.info? 21).map (fun i => (i.zero, i.size, i.bytes)) = some (some (.int .i32 0), 1, 4) := by kernel_rfl
theorem Yba.info25 : (Yba.prog.info? 25).map (fun i => (i.zero, i.size, i.bytes)) = some (some (.agg #[.int .i64 0, .string ⟨#[]⟩]), 2, 24) := by kernel_rfl

/-- The text of a field. -/
def seg (R : List Int) (a b : Nat) : ByteArray := runesBytes ((R.drop a).take (b - a))
/-- The cells of a list of fields. -/
def fcells (R : List Int) : List (Nat × Nat) → List Value
  | [] => []
  | p :: l => .int .i64 p.1 :: .string (seg R p.1 p.2) :: fcells R l

theorem fcells_snoc (R : List Int) (a b : Nat) : ∀ l : List (Nat × Nat), fcells R (l ++ [(a, b)]) = fcells R l ++ [.int .i64 a, .string (seg R a b)]
  | [] => rfl
  | p :: l => by simp [fcells, fcells_snoc R a b l]

theorem fcells_len (R : List Int) : ∀ l : List (Nat × Nat), (fcells R l).length = l.length * 2
  | [] => rfl
  | p :: l => by simp [fcells, fcells_len R l]; omega

theorem fcells_at (R : List Int) : ∀ (l : List (Nat × Nat)) (k a b : Nat), l[k]? = some (a, b) → (fcells R l)[k * 2]? = some (.int .i64 a) ∧ (fcells R l)[k * 2 + 1]? = some (.string (seg R a b))
  | [], k, a, b, h => by simp at h
  | p :: l, 0, a, b, h => by simp at h; subst h; simp [fcells]
  | p :: l, k + 1, a, b, h => by
    have := fcells_at R l k a b (by simpa using h)
    have e : (k + 1) * 2 = k * 2 + 1 + 1 := by omega
    rw [e]
    simpa [fcells] using this

/-- '[]rune(s)'. -/
theorem conv_runes (s : ByteArray) (w : World) (h : s.size ≤ 1000000) :
    ∃ cap W1, (convert 9 27 (.string s)).run Yba.prog w = .ok (.slice (some ⟨w.heap.size, 0, none⟩) (runesL s).length cap) W1 ∧ (runesL s).length ≤ cap ∧ cap ≤ maxLen ∧
      W1.ownsRow w.heap.size 21 1 (.slice (some ⟨w.heap.size, 0, none⟩) (runesL s).length cap) (runesL s).length ((runesL s).map (Value.int .i32)) ∧ w.grownBy W1 none ∧ W1.heap.size = w.heap.size + 1 := by
  have hl := runesL_len s
  have hn : (Conv.runesFrom s s.size 0 #[]).size = (runesL s).length := by rw [runesFrom_all]; simp
  have hrun := run_runes_of_string (P := Yba.prog) w 9 27 21 s Yba.underlying9 Yba.underlying27 Yba.underlying21 (by rw [hn]; omega)
  rw [hn, runesFrom_all] at hrun
  have g1 := grownCap_ge w (runesL s).length 0 21
  have g2 := grownCap_le_maxLen w (runesL s).length 0 21 (by unfold maxLen; omega)
  refine ⟨_, _, hrun, g1, g2, ?_, ?_, by simp⟩
  · refine ⟨by simp, .inr ⟨w.heap.size, _, ((runesL s).map (Value.int .i32)).toArray ++ Array.replicate (grownCap w (runesL s).length 0 21 - (runesL s).length) (.int .i32 0), rfl, Nat.le_refl _, ?_, g1, g2, ?_, ?_⟩⟩
    · exact (MapKept.heap_alloc w.drew _).1
    · simp; omega
    · simp
  · have := World.grownBy_alloc w.drew (.cells (((runesL s).map (Value.int .i32)).toArray ++ Array.replicate (grownCap w (runesL s).length 0 21 - (runesL s).length) (.int .i32 0)) 21) none
    exact ⟨this.os, this.tape, this.output, this.size, this.block⟩

/-- A character's cell. -/
theorem rune_cell {w : World} {g base cap : Nat} {R : List Int} (h : w.ownsRow base 21 1 (.slice (some ⟨g, 0, none⟩) R.length cap) R.length (R.map (Value.int .i32))) (j : Nat) (hj : j < R.length) :
    w.cell? ⟨g, j, none⟩ = some (.int .i32 (ch R j)) := by
  rw [h.cellAt j (by omega)]
  simp [ch, hj]

/-- 'string(runes[a:b])'. -/
theorem conv_seg {w : World} {g base cap c : Nat} {R : List Int} (h : w.ownsRow base 21 1 (.slice (some ⟨g, 0, none⟩) R.length cap) R.length (R.map (Value.int .i32))) (a b : Nat) (hb : b ≤ R.length) :
    (convert 27 9 (.slice (some ⟨g, a, none⟩) (b - a) c)).run Yba.prog w = .ok (.string (seg R a b)) w := by
  have := run_convert_runes (P := Yba.prog) w 27 9 21 ⟨g, a, none⟩ (b - a) c (R.drop a) (by simp; omega) Yba.underlying27 Yba.underlying21 Yba.underlying9 (fun j hj => by
    simp at hj
    rw [Addr.add_lit]
    rw [rune_cell h (a + j) (by omega)]
    simp [ch])
  exact this

end Go.Proofs.Ybulkalhe
