/-
  layout.Fields (function 5): its contract.
-/
import Derived.Test.YbulkalheRunes
namespace Go.Proofs.Ybulkalhe
open Go.RowKit

theorem kept_below {w w' : World} {base B : Nat} {e : TypeId} {size : Nat} {g n cap : Nat} {xs : List Value}
    (h : w.ownsRow base e size (.slice (some ⟨g, 0, none⟩) n cap) n xs) (hb : Below B w w') (hg : g < B) : w'.ownsRow base e size (.slice (some ⟨g, 0, none⟩) n cap) n xs := by
  obtain ⟨h1, h2⟩ := h
  refine ⟨h1, ?_⟩
  rcases h2 with ⟨h2, _⟩ | ⟨g', cap', cur, hv, hg', hh, r⟩
  · cases h2
  · cases hv
    exact .inr ⟨g, cap, cur, rfl, hg', by rw [hb.block g hg]; exact hh, r⟩

theorem kept_own {w w' : World} {base : Nat} {e : TypeId} {size : Nat} {v : Value} {n : Nat} {xs : List Value}
    (h : w.ownsRow base e size v n xs) (hb : Below w.heap.size w w') : w'.ownsRow base e size v n xs := by
  have hlt := h.lt
  obtain ⟨h1, h2⟩ := h
  refine ⟨h1, ?_⟩
  rcases h2 with h2 | ⟨g', cap', cur, hv, hg', hh, r⟩
  · exact .inl h2
  · subst hv
    exact .inr ⟨g', cap', cur, rfl, hg', by rw [hb.block g' (hlt g' rfl).2]; exact hh, r⟩
theorem own_form {w : World} {base : Nat} {e : TypeId} {size : Nat} {v : Value} {n : Nat} {xs : List Value} (h : w.ownsRow base e size v n xs) (hn : 0 < n) : ∃ g cap, v = .slice (some ⟨g, 0, none⟩) n cap ∧ base ≤ g ∧ g < w.heap.size ∧ n ≤ cap ∧ cap ≤ maxLen := by
  have hlt := h.lt
  rcases h.2 with ⟨_, h2⟩ | ⟨g, cap, cur, hv, hg, hh, r1, r2, r3⟩
  · omega
  · subst hv
    exact ⟨g, cap, rfl, hg, (hlt g rfl).2, r1, r2⟩
theorem own_form0 {w : World} {base : Nat} {e : TypeId} {size : Nat} {v : Value} {n : Nat} {xs : List Value} (h : w.ownsRow base e size v n xs) : ∃ a cap, v = .slice a n cap := by
  rcases h.2 with ⟨h1, h2⟩ | ⟨g, cap, cur, hv, hg, hh, r⟩
  · exact ⟨none, 0, by rw [h1, h2]⟩
  · exact ⟨_, cap, hv⟩

theorem two_new (w : World) (x y : Value) (t : TypeId) : ∀ (j : Nat) u, [x, y][j]? = some u → (w.alloc (.cells #[x, y] t)).cell? ((⟨w.heap.size, 0, none⟩ : Addr).add j) = some u := by
  intro j u hj
  match j, hj with
  | 0, hj => simp at hj; subst hj; simp [Addr.add]
  | 1, hj => simp at hj; subst hj; simp [Addr.add]
theorem two_one (k : Int) (s : ByteArray) : ∀ u ∈ [Value.int .i64 k, .string s], u.oneCell' = true := by
  intro u hu
  simp at hu
  rcases hu with rfl | rfl <;> rfl

theorem below_start {w W1 wr : World} (hg : w.grownBy W1 none) (_hsz : W1.heap.size = w.heap.size + 1) (hb : Below (w.heap.size + 1) W1 wr) : Below w.heap.size w wr := by
  exact ((Below.refl _ _).grown hg (Nat.le_refl _) (fun k h => by cases h)).trans (hb.mono (by omega))

theorem step_leave {R : List Int} {k m : Nat} {out : List (Nat × Nat)} {w W1 wr w1 : World} {v v1 : Value} {o : Obj} (hI : Inner R k m out)
    (hc : m = R.length ∨ (ch R m = 32 ∧ (m + 1 = R.length ∨ ch R (m + 1) = 32)))
    (hv : wr.ownsRow (w.heap.size + 1) 25 2 v out.length (fcells R out)) (hb : Below (w.heap.size + 1) W1 wr) (hsz : W1.heap.size = w.heap.size + 1)
    (hown : w1.ownsRow (w.heap.size + 1) 25 2 v1 (out.length + 1) (fcells R out ++ [.int .i64 k, .string (seg R k m)])) (hgrow : (wr.alloc o).grownBy w1 v.ownBlock) :
    Outer R (m + 1) (out ++ [(k, m)]) ∧ w1.ownsRow (w.heap.size + 1) 25 2 v1 (out ++ [(k, m)]).length (fcells R (out ++ [(k, m)])) ∧ Below (w.heap.size + 1) W1 w1 := by
  refine ⟨hI.leave hc, by rw [fcells_snoc]; simpa using hown, ?_⟩
  have := hb.size
  exact (hb.alloc (by omega) o).grown hgrow (by simp; omega) (fun k hk => (hv.lt k hk).1)

set_option maxHeartbeats 1000000 in
set_option maxRecDepth 1000000 in
theorem fields_any (s : ByteArray) (w : World) (hs : s.size ≤ 1024) :
    Calls Yba.prog 5 #[.string s] w fun e w' => ∃ v, e = .returned v ∧ w'.ownsRow (w.heap.size + 1) 25 2 v (flds (runesL s)).length (fcells (runesL s) (flds (runesL s))) ∧ Below w.heap.size w w' := by
  obtain ⟨i0, hi, hz0, hz1, hz2⟩ := info_parts Yba.info25
  have hl := runesL_len s
  obtain ⟨cap, W1, hrun, hc1, hc2, hown, hgrow, hsz⟩ := conv_runes s w (by omega)
  unfold maxLen at hc2
  generalize runesL s = R at *
  go_enter Yba.func5, Yba.ntmps5
  go_wp2
  go_loopw [3, 5] (fun v i wr => ∃ (k : Nat) (out : List (Nat × Nat)), i = .int .i64 k ∧ Outer R k out ∧ wr.ownsRow (w.heap.size + 1) 25 2 v out.length (fcells R out) ∧ Below (w.heap.size + 1) W1 wr ∧ out.length ≤ k)
    (fun _ i _ => R.length + 1 - (intOf i).toNat)
  case atStart => exact ⟨0, [], rfl, Outer.start R, World.ownsRow_nil _ _ _ _, Below.refl _ _, by simp⟩
  case round =>
    obtain ⟨k, out, rfl, hO, hv, hb, hlen⟩ := hrel
    have hown' : wr.ownsRow w.heap.size 21 1 (.slice (some ⟨w.heap.size, 0, none⟩) R.length cap) R.length (R.map (Value.int .i32)) := kept_below hown hb (by omega)
    have hcell := fun j hj => rune_cell hown' j hj
    have hO1 := hO.1
    by_cases hk : k < R.length
    · have hck := hcell k hk
      by_cases hsp : ch R k = 32
      · have h1 : (ch R k == 32) = true := by simp [hsp]
        have HS : Hid (ch R k = 32) := hsp
        clear hsp hcell
        go_wp2
        go_roundw
        case rel => exact ⟨k + 1, out, by go_num, hO.skip hk HS.out, hv, hb, by omega⟩
        case measure => simp [intOf]; omega
      · have h1 : (ch R k == 32) = false := by simp [hsp]
        have HC : Hid (∀ j, j < R.length → wr.cell? ⟨w.heap.size, j, none⟩ = some (.int .i32 (ch R j))) := hcell
        clear hcell
        go_wp2
        clear hck h1
        go_loop [5] (fun i => ∃ m : Nat, i = .int .i64 m ∧ Inner R k m out) (fun i => R.length - (intOf i).toNat)
        case atStart => exact ⟨k, rfl, hO.inner hk hsp⟩
        case round =>
          obtain ⟨m, rfl, hI⟩ := hrel
          have hkm : k ≤ m := hI.1
          have hmR : m ≤ R.length := hI.2.1
          have hkc : ¬ cap = k := by omega
          by_cases hm : m < R.length
          · have hcm := HC.out m hm
            by_cases hc : ch R m = 32
            · have e1 : (ch R m != 32) = false := by simp [hc]
              have H1 : Hid (ch R m = 32) := hc
              clear hc
              by_cases hm1 : m + 1 < R.length
              · have hcm1 := HC.out (m + 1) hm1
                by_cases hd : ch R (m + 1) = 32
                · have e2 : (ch R (m + 1) != 32) = false := by simp [hd]
                  have H2 : Hid (ch R (m + 1) = 32) := hd
                  clear hd
                  have hcv := conv_seg (c := cap - k) hown' k m hmR
                  go_wp2_with (first | (at_builtin; refine wpList_append_own _ rfl _ _ 22 rfl (w.heap.size + 1) 25 i0 _ 2 24 Yba.underlying22 hi hz0 hz1 hz2 rfl (by decide) _ _ _ rfl (hv.alloc _) ⟨wr.heap.size, 0, none⟩ 1 1 [.int .i64 k, .string (seg R k m)] rfl rfl (two_new _ _ _ _) (two_one _ _) ?c3 ?c4 ?c5 ?_))
                  case c3 => unfold maxLen; omega
                  case c4 => omega
                  case c5 => have := hb.size; simp; omega
                  intro v1 w1 hown1 hgrow1 _
                  have R1 := step_leave hI (.inr ⟨H1.out, .inr H2.out⟩) hv hb hsz hown1 hgrow1
                  clear hown1 hgrow1 hv hb hcv hown'
                  go_wp2
                  go_roundw
                  case rel => exact ⟨m + 1, out ++ [(k, m)], by go_num, R1.1, R1.2.1, R1.2.2, by simp; omega⟩
                  case measure => simp [intOf]; omega
                · have e2 : (ch R (m + 1) != 32) = true := by simp [hd]
                  go_wp2
                  go_round
                  case rel => exact ⟨m + 1, by go_num, hI.next hm (.inr ⟨hm1, hd⟩)⟩
                  case measure => simp [intOf]; omega
              · have e3 : decide ((m : Int) + 1 < (R.length : Int)) = false := by simp; omega
                have hcv := conv_seg (c := cap - k) hown' k m hmR
                go_wp2_with (first | (at_builtin; refine wpList_append_own _ rfl _ _ 22 rfl (w.heap.size + 1) 25 i0 _ 2 24 Yba.underlying22 hi hz0 hz1 hz2 rfl (by decide) _ _ _ rfl (hv.alloc _) ⟨wr.heap.size, 0, none⟩ 1 1 [.int .i64 k, .string (seg R k m)] rfl rfl (two_new _ _ _ _) (two_one _ _) ?c3 ?c4 ?c5 ?_))
                case c3 => unfold maxLen; omega
                case c4 => omega
                case c5 => have := hb.size; simp; omega
                intro v1 w1 hown1 hgrow1 _
                have R1 := step_leave hI (.inr ⟨H1.out, .inl (by omega)⟩) hv hb hsz hown1 hgrow1
                clear hown1 hgrow1 hv hb hcv hown'
                go_wp2
                go_roundw
                case rel => exact ⟨m + 1, out ++ [(k, m)], by go_num, R1.1, R1.2.1, R1.2.2, by simp; omega⟩
                case measure => simp [intOf]; omega
            · have e1 : (ch R m != 32) = true := by simp [hc]
              go_wp2
              go_round
              case rel => exact ⟨m + 1, by go_num, hI.next hm (.inl hc)⟩
              case measure => simp [intOf]; omega
          · have e0 : decide ((m : Int) < (R.length : Int)) = false := by simp; omega
            have hcv := conv_seg (c := cap - k) hown' k m hmR
            go_wp2_with (first | (at_builtin; refine wpList_append_own _ rfl _ _ 22 rfl (w.heap.size + 1) 25 i0 _ 2 24 Yba.underlying22 hi hz0 hz1 hz2 rfl (by decide) _ _ _ rfl (hv.alloc _) ⟨wr.heap.size, 0, none⟩ 1 1 [.int .i64 k, .string (seg R k m)] rfl rfl (two_new _ _ _ _) (two_one _ _) ?c3 ?c4 ?c5 ?_))
            case c3 => unfold maxLen; omega
            case c4 => omega
            case c5 => have := hb.size; simp; omega
            intro v1 w1 hown1 hgrow1 _
            have R1 := step_leave hI (.inl (by omega)) hv hb hsz hown1 hgrow1
            clear hown1 hgrow1 hv hb hcv hown'
            go_wp2
            go_roundw
            case rel => exact ⟨m + 1, out ++ [(k, m)], by go_num, R1.1, R1.2.1, R1.2.2, by simp; omega⟩
            case measure => simp [intOf]; omega
    · clear hcell
      go_wp2
      go_ret
      have e := hO.done (by omega)
      subst e
      exact ⟨_, rfl, hv, below_start hgrow hsz hb⟩

end Go.Proofs.Ybulkalhe
