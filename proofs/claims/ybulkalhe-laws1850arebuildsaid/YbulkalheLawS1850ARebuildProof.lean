/-
  'Rows.LawS1850ARebuildSaid': for every input layout.LawS1850ARebuild returns true. The frame: the given shell, its end by 'Below' as in the shells over slices; the walk: typed here.
-/
import Derived.Test.YbulkalheRows
import Derived.WalkKit
import Derived.ProofKit
import Derived.OpenShut
import Derived.ShutString
import Derived.ChangeOld
import Derived.Below
import Derived.Deep.QuietTactic
import Derived.BigQuiet
import Derived.Test.YbulkalheLine
namespace Go.Proofs.Ybulkalhe.lawS1850ARebuild
open Go.ChangeShapes Go.WideShapes Go.ChangeAt Go.RowKit
open Go.ChangeMaps (open_string shut_string)
set_option linter.unusedVariables false      -- a walk need not use every 'w<i>' (that an integer argument fits its kind)

theorem own : ownKnob Yba.prog.godebug = none := by kernel_rfl

/-! ### The rows that the walk holds -/
theorem own_base {w : World} {base base' : Nat} {e : TypeId} {size : Nat} {v : Value} {n : Nat} {xs : List Value} (h : w.ownsRow base e size v n xs) (hb : base' ≤ base) : w.ownsRow base' e size v n xs := by
  obtain ⟨h1, h2⟩ := h
  refine ⟨h1, ?_⟩
  rcases h2 with h2 | ⟨g, c, cur, hv, hg, r⟩
  · exact .inl h2
  · exact .inr ⟨g, c, cur, hv, Nat.le_trans hb hg, r⟩

/-- The line's characters (block B), the line that is built up (block B + 1); nothing old has turned. -/
structure Held (w wr : World) (R line : List Int) (cap : Nat) : Prop where
  r : wr.ownsRow w.heap.size 21 1 (.slice (some ⟨w.heap.size, 0, none⟩) R.length cap) R.length (R.map (Value.int .i32))
  line : wr.ownsRow (w.heap.size + 1) 21 1 (.slice (some ⟨w.heap.size + 1, 0, none⟩) R.length R.length) R.length (line.map (Value.int .i32))
  bel : Below w.heap.size w wr
  size : w.heap.size + 2 ≤ wr.heap.size

theorem line_cell {w : World} {g base n cap : Nat} {L : List Int} (h : w.ownsRow base 21 1 (.slice (some ⟨g, 0, none⟩) n cap) n (L.map (Value.int .i32))) (j : Nat) (hj : j < n) :
    w.cell? ⟨g, j, none⟩ = some (.int .i32 (ch L j)) := by
  have hl : L.length = n := by simpa using h.1
  rw [h.cellAt j (by omega)]
  simp [ch, hl, hj]

theorem held_start {w W1 w2 : World} {R : List Int} {cap : Nat}
    (hown : W1.ownsRow w.heap.size 21 1 (.slice (some ⟨w.heap.size, 0, none⟩) R.length cap) R.length (R.map (Value.int .i32))) (hgrow : w.grownBy W1 none) (hsz : W1.heap.size = w.heap.size + 1)
    (hown2 : w2.ownsRow (w.heap.size + 1) 21 1 (.slice (some ⟨w.heap.size + 1, 0, none⟩) R.length R.length) R.length (madeCells #[Value.int .i32 0] R.length).toList) (hgrow2 : W1.grownBy w2 none) :
    Held w w2 R (List.replicate 0 32 ++ List.replicate (R.length - 0) 0) cap := by
  refine ⟨hown.kept hgrow2 (.inr (by simp [Value.ownBlock])), ?_, ((Below.refl _ _).grown hgrow (Nat.le_refl _) (fun k h => by cases h)).grown hgrow2 (by omega) (fun k h => by cases h), ?_⟩
  · rw [toList_madeCells_one] at hown2
    simpa using hown2
  · have := hown2.lt (w.heap.size + 1) rfl
    omega

theorem Held.lineSome {w wr : World} {R line : List Int} {cap : Nat} (h : Held w wr R line cap) (k : Nat) (hk : k < R.length) : ∃ v, wr.cell? ⟨w.heap.size + 1, k, none⟩ = some v := ⟨_, line_cell h.line k hk⟩

theorem fill_list (n k : Nat) (h : k < n) : (List.replicate k (32 : Int) ++ List.replicate (n - k) 0).set k 32 = List.replicate (k + 1) 32 ++ List.replicate (n - (k + 1)) 0 := by
  have e : n - k = (n - (k + 1)) + 1 := by omega
  rw [e, List.replicate_succ, List.set_append_right _ _ (by simp)]
  simp [List.replicate_succ']

theorem Held.fill {w wr : World} {R : List Int} {cap : Nat} (k : Nat) (hk : k < R.length) (h : Held w wr R (List.replicate k 32 ++ List.replicate (R.length - k) 0) cap) :
    Held w (wr.setCell ⟨w.heap.size + 1, k, none⟩ (.int .i32 32)) R (List.replicate (k + 1) 32 ++ List.replicate (R.length - (k + 1)) 0) cap := by
  have hs := h.line.stored k (.int .i32 32)
  refine ⟨h.r.kept hs.2 (.inr (by simp [Value.ownBlock])), ?_, h.bel.setCell (by simp) _, by have := h.size; have := hs.2.size; omega⟩
  have e := hs.1
  rw [← List.map_set, fill_list _ _ hk] at e
  exact e

theorem Held.later {w wr w' : World} {R line : List Int} {cap : Nat} (h : Held w wr R line cap) (hb : Below wr.heap.size wr w') : Held w w' R line cap :=
  ⟨kept_own h.r hb, kept_own h.line hb, h.bel.trans (hb.mono (by have := h.size; omega)), by have := h.size; have := hb.size; omega⟩

theorem Held.drewN {w wr : World} {R line : List Int} {cap : Nat} (h : Held w wr R line cap) (n : Nat) : Held w (wr.drewN n) R line cap :=
  ⟨h.r, h.line, ⟨h.bel.os, h.bel.tape, h.bel.output, h.bel.size, h.bel.block⟩, h.size⟩

theorem conv_text {R : List Int} {a m : Nat} (hvalid : ∀ r ∈ R, Utf8.valid r = true) (hm : 0 < m) (hb : a + m ≤ R.length) (hR : R.length ≤ 1024) (wr : World) (X : Obj) (hX : X = .cells #[.int .i64 a, .string (seg R a (a + m))] 25) :
    ∃ cap W1, (convert 9 27 (.string (seg R a (a + m)))).run Yba.prog (wr.alloc X) = .ok (.slice (some ⟨wr.heap.size + 1, 0, none⟩) m cap) W1 ∧ m ≤ cap ∧ cap ≤ maxLen ∧
      Hid (∀ j v, (((R.drop a).take m).map (Value.int .i32))[j]? = some v → W1.cell? ((⟨wr.heap.size + 1, 0, none⟩ : Addr).add j) = some v) ∧
      W1.cell? ⟨wr.heap.size + 1, 0, none⟩ = some (.int .i32 (ch R a)) ∧ W1.cell? ⟨wr.heap.size + 1, m - 1, none⟩ = some (.int .i32 (ch R (a + (m - 1)))) ∧ W1.cell? ⟨wr.heap.size, 0, none⟩ = some (.int .i64 a) ∧
      Hid (wr.grownBy W1 none) ∧ W1.heap.size = wr.heap.size + 2 := by
  have e : runesL (seg R a (a + m)) = (R.drop a).take m := by
    have := runesL_bytes ((R.drop a).take (a + m - a)) fun r hr => hvalid r (List.mem_of_mem_drop (List.mem_of_mem_take hr))
    rw [Nat.add_sub_cancel_left] at this
    unfold seg
    rw [Nat.add_sub_cancel_left]
    exact this
  have hl : ((R.drop a).take m).length = m := by simp; omega
  have hs := runesBytes_size_le ((R.drop a).take (a + m - a))
  rw [Nat.add_sub_cancel_left, hl] at hs
  obtain ⟨cap, W1, hrun, d1, d2, hown, hgrow, hsz⟩ := conv_runes (seg R a (a + m)) (wr.alloc X) (by unfold seg; rw [Nat.add_sub_cancel_left]; omega)
  rw [e, hl] at hrun d1 hown
  simp only [World.size_alloc] at hrun hown hsz
  have hat : ∀ j, j < m → ((R.drop a).take m).getD j 0 = ch R (a + j) := fun j hj => by simp [ch, hj]
  have hline : ∀ j, j < m → W1.cell? ⟨wr.heap.size + 1, j, none⟩ = some (.int .i32 (ch R (a + j))) := fun j hj => by
    rw [line_cell hown j hj]
    unfold ch
    rw [hat j hj]
    rfl
  refine ⟨cap, W1, hrun, d1, d2, hown.cells rfl, by simpa using hline 0 hm, hline (m - 1) (by omega), ?_, ?_, by omega⟩
  · refine hgrow.cell ?_ (by simp)
    subst hX
    have := two_new wr (.int .i64 a) (.string (seg R a (a + m))) 25 0 (.int .i64 a) (by simp)
    simpa only [Addr.add_lit] using this
  · show wr.grownBy W1 none
    have h2 := World.grownBy_alloc wr X none
    refine ⟨hgrow.os.trans h2.os, hgrow.tape.trans h2.tape, hgrow.output.trans h2.output, by omega, fun k hk hn => ?_⟩
    rw [hgrow.block k (by simp; omega) hn, h2.block k hk hn]

theorem Held.copied {w wr W4 w5 : World} {R : List Int} {F : List (Nat × Nat)} {k a m cap g c : Nat} (h : Held w wr R (lineAt R F k) cap) (hgr : wr.grownBy W4 none) (hab : F[k]? = some (a, a + m)) (hm : 0 < m) (hb : a + m ≤ R.length)
    (hF : wr.ownsRow (w.heap.size + 2) 25 2 (.slice (some ⟨g, 0, none⟩) F.length c) F.length (fcells R F)) (kg : w.heap.size + 2 ≤ g)
    (hl : w5.ownsRow (w.heap.size + 1) 21 1 (.slice (some ⟨w.heap.size + 1, 0, none⟩) R.length R.length) R.length (splice ((lineAt R F k).map (Value.int .i32)) a (((R.drop a).take m).map (Value.int .i32))))
    (hg5 : W4.grownBy w5 (some (w.heap.size + 1))) :
    Held w w5 R (lineAt R F (k + 1)) cap ∧ w5.ownsRow (w.heap.size + 2) 25 2 (.slice (some ⟨g, 0, none⟩) F.length c) F.length (fcells R F) := by
  have e : splice ((lineAt R F k).map (Value.int .i32)) a (((R.drop a).take m).map (Value.int .i32)) = (lineAt R F (k + 1)).map (Value.int .i32) := by
    rw [splice_map]
    have := line_splice R F k a (a + m) hab (by omega) hb
    rw [Nat.add_sub_cancel_left] at this
    rw [this]
  rw [e] at hl
  have hs := h.size
  have hs4 := hgr.size
  have hs5 := hg5.size
  refine ⟨⟨(h.r.kept hgr (.inr (by simp [Value.ownBlock]))).kept hg5 (.inr (by simp [Value.ownBlock])), hl, ?_, by omega⟩, (hF.kept hgr (.inr (by simp [Value.ownBlock]))).kept hg5 (.inr (by simp [Value.ownBlock]; omega))⟩
  exact (h.bel.grown hgr (by omega) (fun k h => by cases h)).grown hg5 (by omega) (fun k h => by cases h; omega)

theorem size21 : (Yba.prog.info? 21).map (·.size) = some 1 := by kernel_rfl

/-! ### STEP 1: THE WALK -/
set_option maxHeartbeats 4000000 in
set_option maxRecDepth 1000000 in
theorem walk (a0 : ByteArray) (w0 : a0.size ≤ maxLen) (w : World) :
    Calls Yba.prog 4 #[.string a0] w fun e w' => e = .returned (.bool true) ∧ Below w.heap.size w w' := by
  unfold maxLen at w0
  by_cases h1 : 1024 < a0.size
  · go_enter Yba.func4, Yba.ntmps4
    go_wp2
    go_ret
    exact ⟨rfl, Below.refl _ _⟩
  · obtain ⟨i0, hi, hz0, hz1, hz2⟩ := info_parts Yba.info21
    have hl := runesL_len a0
    have hvalid : Hid (∀ r ∈ runesL a0, Utf8.valid r = true) := runesL_valid a0
    obtain ⟨cap, W1, hrun, hc1, hc2, hown, hgrow, hsz⟩ := conv_runes a0 w (by omega)
    unfold maxLen at hc2
    have HF : Hid (∀ W : World, Calls Yba.prog 5 #[.string a0] W fun e w' => ∃ v, e = .returned v ∧ w'.ownsRow (W.heap.size + 1) 25 2 v (flds (runesL a0)).length (fcells (runesL a0) (flds (runesL a0))) ∧ Below W.heap.size W w') := fun W => fields_any a0 W (by omega)
    generalize runesL a0 = R at *
    go_enter Yba.func4, Yba.ntmps4
    go_wp2_with (at_make; refine wpList_make_full _ rfl _ _ 27 rfl (w.heap.size + 1) 21 i0 (.int .i32 0) 1 Yba.underlying27 hi hz0 hz1 _ _ _ _ R.length rfl rfl (by rfl) (by rfl) ?b2 ?b3 ?b4 ?_)
    case b2 => rw [hz2]; omega
    case b3 => unfold maxLen; omega
    case b4 => omega
    intro w2 hown2 hgrow2
    have hH0 : Held w w2 R (List.replicate 0 32 ++ List.replicate (R.length - 0) 0) cap := held_start hown hgrow hsz hown2 hgrow2
    clear hown hgrow hown2 hgrow2
    go_wp2
    go_loopw [6] (fun i wr => ∃ k : Nat, i = .int .i64 k ∧ k ≤ R.length ∧ Held w wr R (List.replicate k 32 ++ List.replicate (R.length - k) 0) cap) (fun i _ => R.length - (intOf i).toNat)
    case atStart => exact ⟨0, rfl, by omega, hH0⟩
    case round =>
      obtain ⟨k, rfl, hk, hH⟩ := hrel
      clear hH0
      by_cases hlt : k < R.length
      · have hst := hH.fill k hlt
        obtain ⟨old, hold⟩ := hH.lineSome k hlt
        have hfr := hH.line.frozenAt k
        clear hH
        go_wp2
        go_roundw
        case rel => exact ⟨k + 1, by go_num, by omega, hst⟩
        case measure => simp [intOf]; omega
      · have ek : k = R.length := by omega
        have hH1 : Held w wr R (lineAt R (flds R) 0) cap := by rw [lineAt_zero]; subst ek; simpa using hH
        clear hH ek
        go_wp2_with fail
        refine (HF.out _).mono ?_
        rintro e w4 ⟨v, rfl, hv, hb4⟩
        have hH2 := hH1.later hb4
        have hv' : w4.ownsRow (w.heap.size + 2) 25 2 v (flds R).length (fcells R (flds R)) := own_base hv (by have := hH1.size; omega)
        clear hv hb4 hH1 HF
        have hgood := flds_good R
        have hall := line_all R
        have HA : Hid (lineAt R (flds R) (flds R).length = R) := hall
        have HG : Hid (Good R (flds R) (R.length + 1)) := hgood
        have hfl := flds_length R
        clear hall hgood
        generalize flds R = F at *
        by_cases hn : 0 < F.length
        · obtain ⟨g, c, rfl, kg, lg, mg, ng⟩ := own_form hv' hn
          unfold maxLen at ng
          go_wp2
          go_loopw [7, 32] (fun nx i wr => ∃ (k x : Nat), i = .int .i64 k ∧ k ≤ F.length ∧ nx = .int .i64 x ∧ Hid (∀ a b, F[k]? = some (a, b) → x ≤ a) ∧ Held w wr R (lineAt R F k) cap ∧
              wr.ownsRow (w.heap.size + 2) 25 2 (.slice (some ⟨g, 0, none⟩) F.length c) F.length (fcells R F)) (fun _ i _ => F.length - (intOf i).toNat)
          case atStart => exact ⟨0, 0, rfl, by omega, rfl, fun a b _ => Nat.zero_le _, hH2, hv'⟩
          case round =>
            clear hH2 hv'
            obtain ⟨k, x, rfl, hk', rfl, HX, hOld, hF⟩ := hrel
            by_cases hlt : k < F.length
            · obtain ⟨a, b, hab⟩ : ∃ a b, F[k]? = some (a, b) := ⟨F[k].1, F[k].2, by simp [hlt]⟩
              have q := fcells_at R F k a b hab
              have p1 := hF.cellAt (k * 2) (by omega)
              have p2 := hF.cellAt (k * 2 + 1) (by omega)
              rw [q.1] at p1
              rw [q.2] at p2
              have hG := HG.out.each k a b hab
              obtain ⟨g1, g2, _, g3, g4⟩ := hG
              have hxa := HX.out a b hab
              have HN : Hid (∀ a' b', F[k + 1]? = some (a', b') → b + 1 ≤ a') := fun a' b' e => HG.out.order k a b a' b' hab e
              have HAB : Hid (F[k]? = some (a, b)) := hab
              clear q hab
              obtain ⟨m, rfl⟩ : ∃ m, b = a + m := ⟨b - a, by omega⟩
              have hm : 0 < m := by omega
              have em : a + m - 1 = a + (m - 1) := by omega
              rw [em] at g4
              obtain ⟨cap3, W4, hrun3, d1, d2, HT, t0, tm, f0, HG3, hsz3⟩ := conv_text hvalid.out hm g2 (by omega) wr _ rfl
              unfold maxLen at d2
              have c1 : (ch R a == 32) = false := by simp [g3]
              have c2 : (ch R (a + (m - 1)) == 32) = false := by simp [g4]
              have c3 : ((m : Int) == 0) = false := by simp; omega
              have c4 : ((m : Int) - 1).toNat = m - 1 := by omega
              have c5 : ¬ R.length = a := by omega
              have hline4 := (hOld.line.kept HG3.out (.inr (by simp [Value.ownBlock])))
              have HO : Hid (Held w wr R (lineAt R F k) cap) := hOld
              have hsw := hOld.size
              clear g3 g4 em hOld
              go_wp2_with (first | (refine wpList_copy_owned rfl (.tmp 79) (.tmp 80) 27 27 rfl 21 Yba.underlying27 size21 (w.heap.size + 1) (w.heap.size + 1) R.length R.length a (R.length - a) (R.length - a) ⟨wr.heap.size + 1, 0, none⟩ m cap3 rfl rfl _ hline4 (((R.drop a).take m).map (Value.int .i32)) ?k1 HT.out ?k2 (ints_oneCell _ _) ?_))
              case k1 =>
                have e1 : m ≤ R.length - a := by omega
                simp [e1, Nat.min_eq_left]
              case k2 => simp; omega
              intro w5 hl5 hg5 hsz5
              rw [← List.map_drop, ← List.map_take] at hl5
              have f0' : w5.cell? ⟨wr.heap.size, 0, none⟩ = some (.int .i64 a) := hg5.cell f0 (by simp; omega)
              have hR := HO.out.copied HG3.out HAB.out hm g2 hF kg hl5 hg5
              clear hl5 hg5 hline4 hF t0 tm f0 p1 p2 c1 c2 hrun3
              go_wp2
              go_roundw
              case rel => exact ⟨k + 1, a + m + 1, by go_num, by omega, by go_num, HN, hR.1, hR.2⟩
              case measure => simp [intOf]; omega
            · have hH3 : Held w wr R R cap := by
                have e : k = F.length := by omega
                subst e
                rw [HA.out] at hOld
                exact hOld
              clear hOld
              go_wp2
              go_loopw [11] (fun i wr => ∃ k : Nat, i = .int .i64 k ∧ k ≤ R.length ∧ Held w wr R R cap) (fun i _ => R.length - (intOf i).toNat)
              case atStart => exact ⟨0, rfl, by omega, hH3⟩
              case round =>
                clear hH3
                obtain ⟨k, rfl, hk, hH4⟩ := hrel
                by_cases hlt : k < R.length
                · have q1 := rune_cell hH4.r k hlt
                  have q2 := line_cell hH4.line k hlt
                  have b1 : (0 : Int) ≤ (k : Int) := by omega
                  have b2 : (k : Int) < (R.length : Int) := by omega
                  have HH : Hid (Held w wr R R cap) := hH4
                  clear hH4
                  go_wp2
                  go_quiet (fail)
                  have hH5 := HH.out.drewN nq
                  clear q1 q2
                  go_wp2
                  go_roundw
                  case rel => exact ⟨k + 1, by go_num, by omega, hH5⟩
                  case measure => simp [intOf]; omega
                · go_wp2
                  go_ret
                  exact ⟨rfl, hH4.bel⟩
        · obtain ⟨p, c, rfl⟩ := own_form0 hv'
          have e0 : F = [] := List.eq_nil_of_length_eq_zero (by omega)
          subst e0
          have hH3 : Held w w4 R R cap := by
            have e := HA.out
            simp only [List.length_nil] at e
            rw [e] at hH2
            exact hH2
          clear hv' hH2
          simp only [List.length_nil]
          go_wp2
          refine wp_loop_rounds 1 ?_
          rw [rounds_succ]
          go_wp2
          go_loopw [11] (fun i wr => ∃ k : Nat, i = .int .i64 k ∧ k ≤ R.length ∧ Held w wr R R cap) (fun i _ => R.length - (intOf i).toNat)
          case atStart => exact ⟨0, rfl, by omega, hH3⟩
          case round =>
            clear hH3
            obtain ⟨k, rfl, hk, hH4⟩ := hrel
            by_cases hlt : k < R.length
            · have q1 := rune_cell hH4.r k hlt
              have q2 := line_cell hH4.line k hlt
              have b1 : (0 : Int) ≤ (k : Int) := by omega
              have b2 : (k : Int) < (R.length : Int) := by omega
              have HH : Hid (Held w wr R R cap) := hH4
              clear hH4
              go_wp2
              go_quiet (fail)
              have hH5 := HH.out.drewN nq
              clear q1 q2
              go_wp2
              go_roundw
              case rel => exact ⟨k + 1, by go_num, by omega, hH5⟩
              case measure => simp [intOf]; omega
            · go_wp2
              go_ret
              exact ⟨rfl, hH4.bel⟩

/-! ### THE ROW's STEP: WRITTEN OUT: LEAVE IT -/
set_option maxRecDepth 100000 in
theorem lifted (os : Os) (started : os.Started) (H : Type) (enc : TypeId × Value → H) :
    ReturnsInHanded {} Yba.checked os 4 .any (Rows.lawS1850ARebuildSpec.pre6 enc Yba.prog Yba.f4 Rows.lawS1850ARebuildRow.domain false) (Rows.lawS1850ARebuildSpec.post enc Yba.prog Yba.f4 false true false false) := by
  refine returnsInHanded_of_change (C := Yba.checked) own started (by kernel_rfl) Yba.func4
    (ChangeSpec.witness6 (enc := enc) (C := Yba.checked) false ⟨#[], #[.string ByteArray.empty], []⟩ 8 (by kernel_rfl) (by kernel_rfl) (by kernel_rfl) (by kernel_rfl)) ?_
  intro W base args ds gs before hval0 hW hcnd _
  have hval : ∀ (j : Nat) t v, Yba.f4.params[j]? = some t → args[j]? = some v → Value.okWide Yba.prog W .any base t v := hval0
  have hW' := hW
  obtain ⟨p, q, hA0, hV, rfl, hfz, hnd⟩ := hW
  have hA : DataW.TrodAll enc Yba.prog W 0 (fun _ => true) true Yba.f4.params.toList args.toList ds p := hA0
  rw [Yba.params4] at hA hval
  obtain ⟨v0, vs0, d0, ds0, p0, q0, hargs, rfl, rfl, h0, r0⟩ := trodAll_cons hA
  obtain ⟨rfl, rfl, rfl⟩ := trodAll_nil r0
  obtain rfl : args = #[v0] := by cases args; simp_all
  obtain ⟨rfl, rfl⟩ := trodVars_none hV
  obtain ⟨a0, rfl, rfl, rfl, w0⟩ := open_string Yba.underlying9 (hval 0 9 v0 rfl rfl) h0
  clear hA0 hval0
  simp only [List.append_nil] at hW'
  refine (walk a0 w0 W).mono fun e W' ⟨he, bel⟩ => ?_
  subst he
  exact ⟨_, rfl, _, _, _, [], _, [], hW', trodAll_mk1 (shut_bool Yba.underlying4 _), (trodAll_cons_mk (shut_string Yba.underlying9 w0) trodAll_mk0), rfl, bel.frame _, fun h => by cases h⟩

theorem over : Rows.lawS1850ARebuildRow.holds Yba.pinned (OpenSpec.ofChange Rows.lawS1850ARebuildSpec) :=
  OpenClaim.holds_of_wide 4 Yba.f4 rfl rfl rfl rfl rfl rfl rfl ⟨rfl, rfl, rfl, rfl, rfl⟩ rfl rfl rfl rfl rfl (by kernel_rfl) Yba.func4 (by kernel_rfl)
    (of_decide_eq_true (by kernel_rfl)) (by unfold Func.isWrapper; first | (rw [if_pos (by decide +kernel)]; kernel_rfl) | (rw [if_neg (by decide +kernel)]; exact ⟨rfl, rfl⟩))
    (fun os started H enc _ => lifted os started H enc)

/-- ████ THE STATEMENT ████ -/
theorem proved : Rows.LawS1850ARebuildSaid :=
  over
end Go.Proofs.Ybulkalhe.lawS1850ARebuild
