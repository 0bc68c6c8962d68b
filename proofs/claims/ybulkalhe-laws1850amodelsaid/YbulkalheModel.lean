/-
  layout.zzs1850agap (function 7) and layout.zzs1850amodel (function 6): their contracts.
-/
import Derived.Test.YbulkalheFields
namespace Go.Proofs.Ybulkalhe
open Go.RowKit

theorem gapB_at {R : List Int} {j : Nat} (h : ch R j = 32) : gapB R j = (j == 0 || ch R (j - 1) == 32 || j + 1 == R.length || ch R (j + 1) == 32) := by
  unfold gapB; simp [h]

theorem ret_bool {a b : Bool} (h : a = b) : Ending.returned (.bool a) = .returned (.bool b) := by rw [h]

set_option maxHeartbeats 1000000 in
set_option maxRecDepth 1000000 in
theorem gap_any (R : List Int) (g base cap j : Nat) (w : World) (hR : R.length ≤ 1000000) (hj : j < R.length)
    (hown : w.ownsRow base 21 1 (.slice (some ⟨g, 0, none⟩) R.length cap) R.length (R.map (Value.int .i32))) :
    Calls Yba.prog 7 #[.slice (some ⟨g, 0, none⟩) R.length cap, .int .i64 j] w fun e w' => e = .returned (.bool (gapB R j)) ∧ w = w' := by
  have hcell := fun j hj => rune_cell hown j hj
  have hcj := hcell j hj
  by_cases hc : ch R j = 32
  · have e1 : (ch R j != 32) = false := by simp [hc]
    have H1 : Hid (ch R j = 32) := hc
    clear hc
    by_cases h0 : j = 0
    · subst h0
      clear hcell
      go_enter Yba.func7, Yba.ntmps7
      go_wp2
      go_ret
      exact ⟨ret_bool (by rw [gapB_true H1.out (.inl rfl)]), rfl⟩
    · have hcp := hcell (j - 1) (by omega)
      have a0 : ((j : Int) == 0) = false := by simp; omega
      have a1 : ((j : Int) - 1).toNat = j - 1 := by omega
      by_cases hp : ch R (j - 1) = 32
      · have e2 : (ch R (j - 1) == 32) = true := by simp [hp]
        have H2 : Hid (ch R (j - 1) = 32) := hp
        clear hp hcell
        go_enter Yba.func7, Yba.ntmps7
        go_wp2
        go_ret
        exact ⟨ret_bool (by rw [gapB_true H1.out (.inr (.inl H2.out))]), rfl⟩
      · have e2 : (ch R (j - 1) == 32) = false := by simp [hp]
        by_cases hn : j + 1 = R.length
        · have e3 : ((j : Int) + 1 == (R.length : Int)) = true := by simp; omega
          have H3 : Hid (j + 1 = R.length) := hn
          clear hn hcell
          go_enter Yba.func7, Yba.ntmps7
          go_wp2
          go_ret
          exact ⟨ret_bool (by rw [gapB_true H1.out (.inr (.inr (.inl H3.out)))]), rfl⟩
        · have e3 : ((j : Int) + 1 == (R.length : Int)) = false := by simp; omega
          have hj1 : j + 1 < R.length := by omega
          have hcn := hcell (j + 1) hj1
          clear hcell
          go_enter Yba.func7, Yba.ntmps7
          go_wp2
          go_ret
          exact ⟨ret_bool (by rw [gapB_at H1.out]; simp [h0, hp, hn]), rfl⟩
  · have e1 : (ch R j != 32) = true := by simp [hc]
    clear hcell
    go_enter Yba.func7, Yba.ntmps7
    go_wp2
    go_ret
    exact ⟨ret_bool (gapB_false (.inl hc)).symm, rfl⟩

/-- The slot 'start'. -/
def startV : Option Nat → Int
  | none => -1
  | some a => a

theorem step_close {R : List Int} {a k : Nat} {out : List (Nat × Nat)} {w W1 wr w1 : World} {v v1 : Value} {o : Obj}
    (hv : wr.ownsRow (w.heap.size + 1) 25 2 v out.length (fcells R out)) (hb : Below (w.heap.size + 1) W1 wr) (hsz : W1.heap.size = w.heap.size + 1)
    (hown : w1.ownsRow (w.heap.size + 1) 25 2 v1 (out.length + 1) (fcells R out ++ [.int .i64 a, .string (seg R a k)])) (hgrow : (wr.alloc o).grownBy w1 v.ownBlock) :
    w1.ownsRow (w.heap.size + 1) 25 2 v1 (out ++ [(a, k)]).length (fcells R (out ++ [(a, k)])) ∧ Below (w.heap.size + 1) W1 w1 := by
  refine ⟨by rw [fcells_snoc]; simpa using hown, ?_⟩
  have := hb.size
  exact (hb.alloc (by omega) o).grown hgrow (by simp; omega) (fun k hk => (hv.lt k hk).1)

set_option maxHeartbeats 2000000 in
set_option maxRecDepth 1000000 in
theorem model_any (s : ByteArray) (w : World) (hs : s.size ≤ 1024) :
    Calls Yba.prog 6 #[.string s] w fun e w' => ∃ v, e = .returned v ∧ w'.ownsRow (w.heap.size + 1) 25 2 v (flds (runesL s)).length (fcells (runesL s) (flds (runesL s))) ∧ Below w.heap.size w w' := by
  obtain ⟨i0, hi, hz0, hz1, hz2⟩ := info_parts Yba.info25
  have hl := runesL_len s
  obtain ⟨cap, W1, hrun, hc1, hc2, hown, hgrow, hsz⟩ := conv_runes s w (by omega)
  unfold maxLen at hc2
  generalize runesL s = R at *
  go_enter Yba.func6, Yba.ntmps6
  go_wp2
  go_loopw [5, 6, 7] (fun v si i wr => ∃ (k : Nat) (out : List (Nat × Nat)) (o : Option Nat), k ≤ R.length + 1 ∧ st R k = (out, o) ∧ i = .int .i64 k ∧ si = .int .i64 (startV o) ∧
      wr.ownsRow (w.heap.size + 1) 25 2 v out.length (fcells R out) ∧ Below (w.heap.size + 1) W1 wr ∧ out.length ≤ k)
    (fun _ _ i _ => R.length + 2 - (intOf i).toNat)
  case atStart => exact ⟨0, [], none, by omega, rfl, rfl, rfl, World.ownsRow_nil _ _ _ _, Below.refl _ _, by simp⟩
  case round =>
    obtain ⟨k, out, o, hk, hst, rfl, rfl, hv, hb, hlen⟩ := hrel
    have hown' : wr.ownsRow w.heap.size 21 1 (.slice (some ⟨w.heap.size, 0, none⟩) R.length cap) R.length (R.map (Value.int .i32)) := kept_below hown hb (by omega)
    have HS : Hid (st R k = (out, o)) := hst
    have hinv := inv R k hk
    rw [hst] at hinv
    clear hst
    by_cases hkR : k ≤ R.length
    · by_cases hkn : k = R.length
      · have b0 : ((k : Int) == (R.length : Int)) = true := by simp [hkn]
        have HG : Hid ((k == R.length || gapB R k) = true) := by show (k == R.length || gapB R k) = true; rw [hkn]; exact or_end R
        clear hkn
        cases o with
        | none =>
          simp only [startV]
          clear hinv
          go_wp2_with (first | (go_at_call 7; refine (gap_any R w.heap.size w.heap.size cap k _ (by omega) (by omega) (by exact hown')).mono ?_; rintro e w' ⟨rfl, rfl⟩))
          go_roundw
          case rel => exact ⟨k + 1, out, none, by omega, st_gap_none HS.out HG.out, by go_num, rfl, hv, hb, by omega⟩
          case measure => simp [intOf]; omega
        | some a =>
          simp only [startV]
          have hak : a < k := hinv.2.1
          have hac : ¬ cap = a := by omega
          clear hinv
          have hcv := conv_seg (c := cap - a) hown' a k hkR
          go_wp2_with (first | (go_at_call 7; refine (gap_any R w.heap.size w.heap.size cap k _ (by omega) (by omega) (by exact hown')).mono ?_; rintro e w' ⟨rfl, rfl⟩) | (at_builtin; refine wpList_append_own _ rfl _ _ 22 rfl (w.heap.size + 1) 25 i0 _ 2 24 Yba.underlying22 hi hz0 hz1 hz2 rfl (by decide) _ _ _ rfl (hv.alloc _) ⟨wr.heap.size, 0, none⟩ 1 1 [.int .i64 a, .string (seg R a k)] rfl rfl (two_new _ _ _ _) (two_one _ _) ?c3 ?c4 ?c5 ?_))
          case c3 => unfold maxLen; omega
          case c4 => omega
          case c5 => have := hb.size; simp; omega
          intro v1 w1 hown1 hgrow1 _
          have R1 := step_close hv hb hsz hown1 hgrow1
          clear hown1 hgrow1 hv hb hcv hown'
          go_wp2
          go_roundw
          case rel => exact ⟨k + 1, out ++ [(a, k)], none, by omega, st_gap_some HS.out HG.out, by go_num, rfl, R1.1, R1.2, by simp; omega⟩
          case measure => simp [intOf]; omega
      · have b0 : ((k : Int) == (R.length : Int)) = false := by simp; omega
        have hkl : k < R.length := by omega
        clear hkn
        cases hg : gapB R k with
        | true =>
          have HG : Hid ((k == R.length || gapB R k) = true) := or_true hg
          cases o with
          | none =>
            simp only [startV]
            clear hinv
            go_wp2_with (first | (go_at_call 7; refine (gap_any R w.heap.size w.heap.size cap k _ (by omega) (by omega) (by exact hown')).mono ?_; rintro e w' ⟨rfl, rfl⟩))
            go_roundw
            case rel => exact ⟨k + 1, out, none, by omega, st_gap_none HS.out HG.out, by go_num, rfl, hv, hb, by omega⟩
            case measure => simp [intOf]; omega
          | some a =>
            simp only [startV]
            have hak : a < k := hinv.2.1
            have hac : ¬ cap = a := by omega
            clear hinv
            have hcv := conv_seg (c := cap - a) hown' a k hkR
            go_wp2_with (first | (go_at_call 7; refine (gap_any R w.heap.size w.heap.size cap k _ (by omega) (by omega) (by exact hown')).mono ?_; rintro e w' ⟨rfl, rfl⟩) | (at_builtin; refine wpList_append_own _ rfl _ _ 22 rfl (w.heap.size + 1) 25 i0 _ 2 24 Yba.underlying22 hi hz0 hz1 hz2 rfl (by decide) _ _ _ rfl (hv.alloc _) ⟨wr.heap.size, 0, none⟩ 1 1 [.int .i64 a, .string (seg R a k)] rfl rfl (two_new _ _ _ _) (two_one _ _) ?c3 ?c4 ?c5 ?_))
            case c3 => unfold maxLen; omega
            case c4 => omega
            case c5 => have := hb.size; simp; omega
            intro v1 w1 hown1 hgrow1 _
            have R1 := step_close hv hb hsz hown1 hgrow1
            clear hown1 hgrow1 hv hb hcv hown'
            go_wp2
            go_roundw
            case rel => exact ⟨k + 1, out ++ [(a, k)], none, by omega, st_gap_some HS.out HG.out, by go_num, rfl, R1.1, R1.2, by simp; omega⟩
            case measure => simp [intOf]; omega
        | false =>
          have HG : Hid ((k == R.length || gapB R k) = false) := or_false hg hkl
          cases o with
          | none =>
            simp only [startV]
            clear hinv
            go_wp2_with (first | (go_at_call 7; refine (gap_any R w.heap.size w.heap.size cap k _ (by omega) (by omega) (by exact hown')).mono ?_; rintro e w' ⟨rfl, rfl⟩))
            go_roundw
            case rel => exact ⟨k + 1, out, some k, by omega, st_in_none HS.out HG.out, by go_num, rfl, hv, hb, by omega⟩
            case measure => simp [intOf]; omega
          | some a =>
            simp only [startV]
            clear hinv
            go_wp2_with (first | (go_at_call 7; refine (gap_any R w.heap.size w.heap.size cap k _ (by omega) (by omega) (by exact hown')).mono ?_; rintro e w' ⟨rfl, rfl⟩))
            go_roundw
            case rel => exact ⟨k + 1, out, some a, by omega, st_in_some HS.out HG.out, by go_num, rfl, hv, hb, by omega⟩
            case measure => simp [intOf]; omega
    · have e : k = R.length + 1 := by omega
      have HF : Hid (out = flds R) := by show out = flds R; unfold flds; rw [← e, HS.out]
      clear hinv e
      go_wp2
      go_ret
      have e := HF.out
      subst e
      exact ⟨_, rfl, hv, below_start hgrow hsz hb⟩

end Go.Proofs.Ybulkalhe
