/-
  fgd.zzs1831cafter2 (function 10): its contract: the string behind its first two bytes, or the empty one.
-/
import Derived.Test.YbulkakwyRows
import Derived.WalkKit
import Derived.ProofKit
import Derived.Below
import Derived.Laws.IdiomStrings
import Derived.WalkSpells
namespace Go.Proofs.Ybulkakwy
open Go.RowKit

theorem Yba.info5 : (Yba.prog.info? 5).map (fun i => (i.zero, i.size, i.bytes)) = some (some (.int .u8 0), 1, 1) := by kernel_rfl

/-- The bytes of s from place 2 on, the first k of them, as cells. -/
def bys (s : ByteArray) (k : Nat) : List UInt8 := (s.data.toList.drop 2).take k
def cellsOf (l : List UInt8) : List Value := l.map fun b => Value.int .u8 b.toNat

theorem cellsOf_one (l : List UInt8) : ∀ u ∈ cellsOf l, u.oneCell' = true := by
  intro u hu
  obtain ⟨_, _, rfl⟩ := List.mem_map.1 hu
  rfl

theorem bys_snoc (s : ByteArray) (k : Nat) (h : k + 2 < s.size) : bys s (k + 1) = bys s k ++ [s[k + 2]] := by
  unfold bys
  have hl : k < (s.data.toList.drop 2).length := by simp; exact Nat.lt_sub_of_add_lt h
  rw [List.take_succ_eq_append_getElem hl]
  simp [Nat.add_comm]
  rfl

theorem bys_len (s : ByteArray) (k : Nat) (h : k + 2 ≤ s.size) : (bys s k).length = k := by
  unfold bys
  simp
  have : s.data.size = s.size := rfl
  omega

theorem cells_snoc (s : ByteArray) (k : Nat) (h : k + 2 < s.size) : cellsOf (bys s k) ++ [Value.int .u8 (s[k + 2].toNat : Int)] = cellsOf (bys s (k + 1)) := by
  rw [bys_snoc s k h]
  simp [cellsOf]

theorem bys_all (s : ByteArray) : (⟨(bys s (s.size - 2)).toArray⟩ : ByteArray) = s.extract 2 s.size := by
  apply ByteArray.ext
  rw [ByteArray.data_extract]
  apply Array.toList_inj.1
  simp [bys]

theorem conv_all (s : ByteArray) (k : Nat) (w wr : World) (h : k + 2 = s.size) (_h2 : s.size ≤ 4096)
    (hown : wr.ownsRow w.heap.size 5 1 (.slice (some ⟨w.heap.size, 0, none⟩) k (s.size - 2)) k (cellsOf (bys s k))) :
    (convert 48 9 (.slice (some ⟨w.heap.size, 0, none⟩) k (s.size - 2))).run Yba.prog wr = .ok (.string (s.extract 2 s.size)) wr := by
  have hl := bys_len s k (by omega)
  have := run_convert_bytes_back (P := Yba.prog) wr 48 9 5 ⟨w.heap.size, 0, none⟩ (s.size - 2) (bys s k) Yba.underlying48 Yba.underlying5 Yba.underlying9 (fun j hj => by
    rw [hown.cells rfl j (.int .u8 ((bys s k)[j].toNat : Int)) (by simp [cellsOf, hj])])
  rw [hl] at this
  rw [this]
  have e : k = s.size - 2 := by omega
  rw [e, bys_all s]

set_option maxHeartbeats 400000 in
set_option maxRecDepth 1000000 in
theorem after_short (s : ByteArray) (w : World) (h : s.size < 2) :
    Calls Yba.prog 10 #[.string s] w fun e w' => e = .returned (.string ByteArray.empty) ∧ w' = w := by
  go_enter Yba.func10, Yba.ntmps10
  go_wp2
  go_ret
  exact ⟨rfl, rfl⟩

set_option maxHeartbeats 400000 in
set_option maxRecDepth 1000000 in
theorem after_long (s : ByteArray) (w : World) (h : 2 ≤ s.size) (h2 : s.size ≤ 4096) :
    Calls Yba.prog 10 #[.string s] w fun e w' => e = .returned (.string (s.extract 2 s.size)) ∧ Below w.heap.size w w' := by
  obtain ⟨i0, hi, hz0, hz1, hz2⟩ := info_parts Yba.info5
  go_enter Yba.func10, Yba.ntmps10
  go_wp2_with (at_make; refine wpList_make_own _ rfl _ _ 48 rfl w.heap.size 5 i0 (.int .u8 0) 1 Yba.underlying48 hi hz0 hz1 _ _ _ (s.size - 2) rfl rfl (by omega) ?b2 ?b3 (Nat.le_refl _) ?_)
  case b2 => rw [hz2]; omega
  case b3 => unfold maxLen; omega
  intro w0 hown0 hgrow0
  go_wp2
  go_loopw [3, 4] (fun v i wr => ∃ k : Nat, k + 2 ≤ s.size ∧ i = .int .i64 ((k : Int) + 2) ∧ v = .slice (some ⟨w.heap.size, 0, none⟩) k (s.size - 2) ∧
      wr.ownsRow w.heap.size 5 1 (.slice (some ⟨w.heap.size, 0, none⟩) k (s.size - 2)) k (cellsOf (bys s k)) ∧ Below w.heap.size w wr)
    (fun _ i _ => s.size - (intOf i).toNat)
  case atStart => exact ⟨0, by omega, rfl, rfl, hown0, (Below.refl _ _).grown hgrow0 (Nat.le_refl _) (fun k h => by cases h)⟩
  case round =>
    obtain ⟨k, hk, rfl, rfl, hown, hnx⟩ := hrel
    clear hown0 hgrow0
    by_cases hlt : k + 2 < s.size
    · go_wp2_with (first
        | (at_builtin; refine wpList_append_fits _ rfl _ _ 48 rfl w.heap.size 5 i0 1 Yba.underlying48 hi hz1 w.heap.size k (s.size - 2) _ rfl (hown.alloc _) ⟨wr.heap.size, 0, none⟩ 1 1 [.int .u8 (s[k + 2].toNat : Int)] rfl rfl ?c1 ?c2 ?c3 ?_))
      case c1 =>
        intro j u hj
        match j, hj with
        | 0, hj => simp at hj; subst hj; simp [Addr.add]
      case c2 => intro u hu; simp at hu; subst hu; rfl
      case c3 => omega
      intro w1 hown1 hgrow1
      have hb1 : Below w.heap.size w w1 := (hnx.alloc hnx.size _).grown hgrow1 (by simp; have := hnx.size; omega) (fun k hk => by cases hk; exact Nat.le_refl _)
      rw [cells_snoc s k hlt] at hown1
      clear hown hgrow1 hnx
      go_wp2
      go_roundw
      case rel => exact ⟨k + 1, by omega, by go_num, rfl, hown1, hb1⟩
      case measure => simp [intOf]; omega
    · have hconv := conv_all s k w wr (by omega) (by omega) hown
      clear hown
      go_wp2
      go_ret
      exact ⟨rfl, hnx⟩
end Go.Proofs.Ybulkakwy
