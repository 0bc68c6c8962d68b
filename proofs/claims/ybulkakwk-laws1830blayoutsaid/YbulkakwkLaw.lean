/-
  replay.LawS1830BLayout (function 3): the walk.
-/
import Derived.Test.YbulkakwkMake
import Derived.Deep.AppendLies
namespace Go.Proofs.Ybulkakwk
open Go.RowKit
attribute [local go_sem ↓] Go.wp_at_zero Go.wp_at_succ
set_option linter.unusedVariables false

/-- The cells of a new leaf. -/
def leafC : Array Value := madeCells (Value.agg #[.int .i64 0, .int .i64 0, .int .i64 0, .int .i64 0]).cells 128
def wantC (N : Nat) : Array Value := madeCells (Value.int .i64 0).cells N
def esC (n : Nat) : Array Value := madeCells (Value.agg #[.int .i64 0, .int .i64 0, .int .i64 0, .int .i64 0]).cells (n * 4)
theorem make_leaf (w' : World) : (Instr.makeSlice 24 (.int .i64 0) (.int .i64 32)).run Yba.prog w' = .ok (.slice (some ⟨w'.heap.size, 0, none⟩) 0 32) (w'.alloc (.cells leafC 37)) := by
  obtain ⟨i37, hi37, hz37, hs37, hb37⟩ := info_parts Yba.info37
  have h := run_make (P := Yba.prog) w' 24 37 i37 _ Yba.underlying24 hi37 hz37 .i64 .i64 0 32 (by omega) (by omega) (by rw [hb37]; omega) (by omega)
  rw [hs37] at h
  exact h
theorem leaf_own (w' : World) (B : Nat) (hB : B ≤ w'.heap.size) : (w'.alloc (.cells leafC 37)).ownsRow B 37 4 (leafV w'.heap.size) 0 [] :=
  World.ownsRow_made w' leafC 32 hB (by unfold maxLen; omega) (by unfold leafC; rw [size_madeCells])
theorem make_es (w' : World) (n : Nat) (hn : n ≤ 1024) : (Instr.makeSlice 24 (.int .i64 0) (.int .i64 n)).run Yba.prog w' = .ok (.slice (some ⟨w'.heap.size, 0, none⟩) 0 n) (w'.alloc (.cells (esC n) 37)) := by
  obtain ⟨i37, hi37, hz37, hs37, hb37⟩ := info_parts Yba.info37
  have h := run_make (P := Yba.prog) w' 24 37 i37 _ Yba.underlying24 hi37 hz37 .i64 .i64 0 n (by omega) (by omega) (by rw [hb37]; omega) (by omega)
  rw [hs37] at h
  unfold esC
  simpa using h
theorem make_want (w' : World) (N : Nat) (z : Int) (hN : N ≤ 2000) (hz : z = N) : (Instr.makeSlice 22 (.int .i64 0) (.int .i64 z)).run Yba.prog w' = .ok (.slice (some ⟨w'.heap.size, 0, none⟩) 0 N) (w'.alloc (.cells (wantC N) 2)) := by
  obtain ⟨i2, hi2, hz2, hs2, hb2⟩ := info_parts Yba.info2
  subst hz
  have h := run_make (P := Yba.prog) w' 22 2 i2 _ Yba.underlying22 hi2 hz2 .i64 .i64 0 N (by omega) (by omega) (by rw [hb2]; omega) (by omega)
  rw [hs2] at h
  unfold wantC
  simpa using h
theorem sp_start (w : World) (lst : Bool) : Sp w.heap.size w.heap.size lst w (w.alloc (.cells (treec lst (.slice none 0 0)) 35)) [] none 0 :=
  ⟨heap_alloc_new w _, World.ownsRow_nil _ _ _ _, fun b hb => by simp at hb, List.nodup_nil, Nat.le_refl _, by simp, (Below.refl _ _).alloc (Nat.le_refl _) _⟩

theorem mk2_start {B T : Nat} {lst : Bool} {w wr : World} {S : List Nat} {sa : Option Addr} {scap : Nat} (h : Sp B T lst w wr S sa scap) (W : List Int) (N : Nat) (hN : N ≤ 2000) :
    Mk2 B T lst w ((wr.alloc (.cells (wantC N) 2)).alloc (.cells leafC 37)) S sa scap W (wr.heap.size + 1) wr.heap.size N 0 0 := by
  have h1 := (h.grown (World.grownBy_alloc wr (.cells (wantC N) 2) none)).grown (World.grownBy_alloc (wr.alloc (.cells (wantC N) 2)) (.cells leafC 37) none)
  have hs := h.sz
  refine ⟨h1, ?_, ?_, fun hb => by have := h.slt hb; omega⟩
  · have := leaf_own (wr.alloc (.cells (wantC N) 2)) B (by simp; omega)
    simpa [leafV, ecells] using this
  · exact (World.ownsRow_made wr (wantC N) N hs (by unfold maxLen; omega) (by unfold wantC; rw [size_madeCells, Nat.mul_one])).alloc _

theorem mk3_start {B T : Nat} {lst : Bool} {w wr : World} {S : List Nat} {sa : Option Addr} {scap g wg N p : Nat} {W : List Int} (h : Mk2 B T lst w wr S sa scap W g wg N p p) (n : Nat) (hn : n ≤ 1024) :
    Mk3 B T lst w (wr.alloc (.cells (esC n) 37)) S sa scap W g wg N p (p + 0) wr.heap.size n 0 := by
  refine ⟨h.grown (World.grownBy_alloc wr _ none), ?_, fun hb => ?_⟩
  · exact World.ownsRow_made wr (esC n) n h.sp.sz (by unfold maxLen; omega) (by unfold esC; rw [size_madeCells])
  · simp only [List.mem_cons] at hb
    rcases hb with hb | hb
    · have := (h.cur.lt g rfl).2
      omega
    · have := h.sp.slt hb
      omega

theorem own_len {w : World} {base e size n : Nat} {v : Value} {xs : List Value} (h : w.ownsRow base e size v n xs) : ∃ a cap, v = .slice a n cap := by
  rcases h.2 with ⟨h1, h2⟩ | ⟨g, cap, cur, hv, _⟩
  · exact ⟨none, 0, by rw [h1, h2]⟩
  · exact ⟨_, cap, hv⟩
theorem grown_refl (w : World) : w.grownBy w none := ⟨rfl, rfl, rfl, Nat.le_refl _, fun _ _ _ => rfl⟩
/-- The cells of child t of 'nout'. -/
theorem Base.kid {c : Cst} {wr : World} {G S : List Nat} {sa : Option Addr} {scap R cap N : Nat} (hb : Base c wr G S sa scap (.slice (some ⟨R, 0, none⟩) N cap)) (hpre : c.pre.length = c.b0 * 6) {t b : Nat} (ht : G[t]? = some b) (r : Nat) (hr : r < 6) :
    wr.cell? ⟨R, (c.b0 + t) * 6 + r, none⟩ = (chd c.W c.lst t b)[r]? := by
  have htl := (List.getElem?_eq_some_iff.1 ht).1
  have hN : N = c.b0 + G.length := by
    rcases hb.ot.2 with ⟨h1, _⟩ | ⟨_, _, _, h1, _⟩
    · simp at h1
    · simp at h1; exact h1.2.1
  have h := hb.ot
  subst hN
  rw [h.cellAt ((c.b0 + t) * 6 + r) (by omega), List.getElem?_append_right (by omega), hpre]
  have e : (c.b0 + t) * 6 + r - c.b0 * 6 = t * 6 + r := by omega
  rw [e, ccells_get c.W c.lst G 0 t b r ht hr, Nat.zero_add]
/-- What stands ahead of the call of lay. -/
def preC : Bool → List Value
  | true => [.pointer none, .slice none 0 0, .int .i64 0, .int .i64 0, .int .i64 7, .int .i64 0]
  | false => []
def b0C : Bool → Nat
  | true => 1
  | false => 0
theorem pre_len (a5 : Bool) : (preC a5).length = b0C a5 * 6 := by cases a5 <;> rfl
theorem base_start {B T : Nat} {lst a5 : Bool} {w wr : World} {S : List Nat} {sa : Option Addr} {scap g wg p n E : Nat} {W : List Int} (h : Mk3 B T lst w wr S sa scap W g wg (p + n) p (p + n) E n n) (hp : p ≤ 32) (hW : W.length = p + n) {vout : Value} (ho : wr.ownsRow B 28 6 vout (b0C a5) (preC a5)) :
    Base ⟨B, T, W, lst, preC a5, b0C a5, p, n, E, wg, p + n⟩ wr [] S sa scap vout ∧ Cur ⟨B, T, W, lst, preC a5, b0C a5, p, n, E, wg, p + n⟩ wr [] S g p := by
  refine ⟨⟨h.two.sp.tb, h.two.sp.sp, h.two.sp.sl, fun j b hb => by simp at hb, h.es, ?_, ?_, ?_, h.two.sp.lo, h.two.sp.sz⟩, ⟨?_, ?_, hp⟩⟩
  · have h1 := h.two.wt
    rw [List.take_of_length_le (by omega)] at h1
    show wr.ownsRow B 2 1 (.slice (some ⟨wg, 0, none⟩) W.length (p + n)) W.length _
    rw [hW]
    exact h1
  · simpa [ccells] using ho
  · have h1 := h.ne
    simp only [List.mem_cons, not_or] at h1
    simp only [List.nil_append]
    exact List.nodup_cons.2 ⟨h1.2, h.two.sp.nd⟩
  · simpa using h.two.cur
  · have h1 := h.ne
    simp only [List.mem_cons, not_or] at h1
    simp only [List.nil_append, List.mem_cons, not_or]
    exact ⟨fun e => h1.1 e.symm, h.two.ne⟩

/-- The world ahead of the append of a new spare leaf. -/
def midW (wr : World) : World := ((wr.alloc (.cells leafC 37)).alloc (.cells #[leafV wr.heap.size] 24)).drew
theorem midW_grown (wr : World) : wr.grownBy (midW wr) none :=
  ⟨rfl, rfl, rfl, by simp [midW, World.drew]; omega, fun k hk _ => by
    show (((wr.alloc _).alloc _).heap)[k]? = _
    rw [heap_alloc_old _ _ (by simp; omega), heap_alloc_old _ _ hk]⟩
theorem Sp.tree_after {B T : Nat} {lst : Bool} {w wr w1 : World} {S : List Nat} {sa : Option Addr} {scap : Nat} (h : Sp B T lst w wr S sa scap) (hg : (midW wr).grownBy w1 (Value.slice sa S.length scap).ownBlock) :
    w1.heap[T]? = some (.cells (treec lst (.slice sa S.length scap)) 35 (0, 0)) := by
  have h1 := h.grown (midW_grown wr)
  rw [hg.block _ h1.tlt (fun e => by
    obtain ⟨cur, hc⟩ := own_block h1.sp e.symm
    have h2 := h1.tb
    rw [hc] at h2
    simp at h2)]
  exact h1.tb

set_option maxHeartbeats 400000000 in
set_option maxRecDepth 1000000 in
theorem law_main (a0 a1 : Int) (a2 : Option Addr) (n cap2 : Nat) (Z : List Int) (lst : Bool) (a4 : Int) (a5 : Bool) (w : World) (h0 : 0 ≤ a0 ∧ a0 ≤ 255) (h4 : 0 ≤ a4 ∧ a4 ≤ 255) (hn : n ≤ 1024) (hc2 : n ≤ cap2) (hZ : Z.length = n)
    (hA : 0 < n → ∃ b off, a2 = some ⟨b, off, none⟩ ∧ b < w.heap.size ∧ ∀ i, i < n → w.cell? ⟨b, off + i, none⟩ = some (.int .i64 (Z.getD i 0)))
    (p sp : Nat) (hp : 32 - a0 % 33 = p) (hsp : a4 % 3 = sp) :
    Calls Yba.prog 3 #[.int .u8 a0, .int .i64 a1, .slice a2 n cap2, .bool lst, .int .u8 a4, .bool a5] w fun e w' => e = .returned (.bool true) ∧ Below w.heap.size w w' := by
  obtain ⟨i37, hi37, hz37, hs37, hb37⟩ := info_parts Yba.info37
  obtain ⟨i28, hi28, hz28, hs28, hb28⟩ := info_parts Yba.info28
  obtain ⟨i24, hi24, hz24, hs24, hb24⟩ := info_parts Yba.info24
  obtain ⟨i2, hi2, hz2, hs2, hb2⟩ := info_parts Yba.info2
  have hp32 : p ≤ 32 := by omega
  have hsp2 : sp ≤ 2 := by omega
  have HA : Hid (0 < n → ∃ b off, a2 = some ⟨b, off, none⟩ ∧ b < w.heap.size ∧ ∀ i, i < n → w.cell? ⟨b, off + i, none⟩ = some (.int .i64 (Z.getD i 0))) := hA
  clear hA
  go_enter Yba.func3, Yba.ntmps3
  go_wp2
  clear hsp hp
  go_loopw [16] (fun i wr => ∃ (k : Nat) (S : List Nat) (sa : Option Addr) (scap : Nat), i = .int .i64 k ∧ k ≤ sp ∧ S.length = k ∧ Sp w.heap.size w.heap.size lst w wr S sa scap) (fun i _ => sp - (intOf i).toNat)
  case atStart => exact ⟨0, [], none, 0, rfl, by omega, rfl, sp_start w lst⟩
  case round =>
    obtain ⟨k, S, sa, scap, rfl, hk, hSl, hSp⟩ := hrel
    by_cases hlt : k < sp
    ·
      as_aux_lemma =>
        have hmk := make_leaf
        have c11 : wr.cell? ⟨w.heap.size, 11, none⟩ = some (.slice sa k scap) := by rw [cell_of_row wr _ 11 _ 35 (0, 0) hSp.tb, hSl]; rfl
        have hSm := hSp.grown (midW_grown wr)
        have hsp' : (midW wr).ownsRow w.heap.size 24 1 (.slice sa k scap) k (S.map leafV) := by have := hSm.sp; rwa [hSl] at this
        have hnews : ∀ (j : Nat) (u : Value), [leafV wr.heap.size][j]? = some u → (midW wr).cell? ((⟨wr.heap.size + 1, 0, none⟩ : Addr).add j) = some u := fun j u h => by
          have := list_new (wr.alloc (.cells leafC 37)) [leafV wr.heap.size] 24 j u h
          rwa [World.size_alloc] at this
        have h1c : ∀ u ∈ [leafV wr.heap.size], u.oneCell' = true := by intro u hu; simp at hu; subst hu; rfl
        have hszm : w.heap.size ≤ (midW wr).heap.size := hSm.sz
        have harm : ∀ (g cap : Nat) (w1 : World), (midW wr).grownBy w1 (Value.slice sa k scap).ownBlock → w1.cell? ⟨w.heap.size, 11, none⟩ = some (.slice sa k scap) ∧ w1.frozen? ⟨w.heap.size, 11, none⟩ = false := fun g cap w1 hg => by
          have h := hSp.tree_after (by rwa [hSl])
          exact ⟨by rw [cell_of_row w1 _ 11 _ 35 (0, 0) h, hSl]; rfl, frozen_of_row w1 _ 11 _ 35 h⟩
        have c11a : (wr.alloc (.cells leafC 37)).drew.cell? ⟨w.heap.size, 11, none⟩ = some (.slice sa k scap) := by
          have h := (hSp.grown (World.grownBy_alloc wr (.cells leafC 37) none)).tb
          show (wr.alloc (.cells leafC 37)).cell? ⟨w.heap.size, 11, none⟩ = _
          rw [cell_of_row _ _ 11 _ 35 (0, 0) h, hSl]; rfl
        have c11b : ((wr.alloc (.cells leafC 37)).alloc (.cells #[.slice (some ⟨wr.heap.size, 0, none⟩) 0 32] 24)).drew.cell? ⟨w.heap.size, 11, none⟩ = some (.slice sa k scap) := by
          have h := cell_of_row (midW wr) _ 11 _ 35 (0, 0) hSm.tb
          rw [hSl] at h
          exact h
        go_wp2_with fail
        go_region_law (refine step_append_lies (midW wr) (by rfl) (.tmp 57) (.tmp 59) 30 (by rfl) w.heap.size 24 i24 _ 1 24 Yba.underlying30 hi24 hz24 hs24 hb24 rfl (by decide) (.slice sa k scap) k (S.map leafV) (by rfl) hsp' ⟨wr.heap.size + 1, 0, none⟩ 1 1 [leafV wr.heap.size] (by rfl) rfl hnews h1c (by omega) (by unfold maxLen; omega) (by omega) hszm _ rfl ?_; intro g cap w1 ho hg hat hlt'; have hcf := harm g cap w1 hg; have hcc := hcf.1; have hcz := hcf.2)
        all_goals
          have hSp2 : Sp w.heap.size w.heap.size lst w (w1.setCell ⟨w.heap.size, 11, none⟩ (.slice (some ⟨g, 0, none⟩) (k + 1) cap)) (S ++ [wr.heap.size]) (some ⟨g, 0, none⟩) cap := by
            subst hSl
            exact hSm.push (fun h => by have := hSp.slt h; omega) (((leaf_own wr w.heap.size hSp.sz).alloc _).drew) (by simpa using ho) hg rfl
          clear hcf hcc hcz ho hg hat hlt' harm hszm h1c hnews hsp' hSm c11a c11b c11 hmk
          go_wp2
          go_roundw
          case rel => exact ⟨k + 1, S ++ [wr.heap.size], some ⟨g, 0, none⟩, cap, rfl, by omega, by simp [hSl], hSp2⟩
          case measure => simp [intOf]; omega
    · have hkk : k = sp := by omega
      subst hkk
      have hmw := fun w' => make_want w' (p + n) ((p : Int) + n) (by omega) (by omega)
      have hml := make_leaf
      have bp : (p : Int) + n ≤ 2000 := by omega
      go_wp2_with fail
      obtain ⟨W, hWd⟩ : ∃ W, W = (List.range p).map (fun i : Nat => wrap64 (a1 + (i : Int))) ++ Z := ⟨_, rfl⟩
      have hWl : W.length = p + n := by rw [hWd]; simp [hZ]
      have HW1 : Hid (∀ i, i < p → W[i]? = some (wrap64 (a1 + (i : Int)))) := fun i hi => by rw [hWd, List.getElem?_append_left (by simp; omega)]; simp [hi]
      have HW2 : Hid (∀ i, i < n → W[p + i]? = some (Z.getD i 0)) := fun i hi => by
        rw [hWd, List.getElem?_append_right (by simp)]
        simp [List.getD_eq_getElem?_getD]
        rw [List.getElem?_eq_getElem (by omega)]
        simp
      clear hWd
      have hM := mk2_start hSp W (p + n) (by omega)
      clear hmw hml
      obtain ⟨wA, hwA⟩ : ∃ wA, wA = (wr.alloc (.cells (wantC (p + n)) 2)).alloc (.cells leafC 37) := ⟨_, rfl⟩
      rw [← hwA] at hM ⊢
      obtain ⟨g, hg⟩ : ∃ g, g = wr.heap.size + 1 := ⟨_, rfl⟩
      obtain ⟨wg, hwg⟩ : ∃ wg, wg = wr.heap.size := ⟨_, rfl⟩
      rw [← hg, ← hwg] at hM ⊢
      clear hwA hg hwg hSp
      clear wr
      go_loopw [17, 18, 19] (fun s17 s18 s19 wr => ∃ k : Nat, s19 = .int .i64 k ∧ k ≤ p ∧ s17 = .slice (some ⟨wg, 0, none⟩) k (p + n) ∧ s18 = .slice (some ⟨g, 0, none⟩) k 32 ∧ Mk2 w.heap.size w.heap.size lst w wr S sa scap W g wg (p + n) k k) (fun _ _ i _ => p - (intOf i).toNat)
      case atStart => exact ⟨0, rfl, by omega, rfl, rfl, hM⟩
      case round =>
        clear hM
        clear wA
        obtain ⟨i, rfl, hi, rfl, rfl, hM⟩ := hrel
        by_cases hlt2 : i < p
        ·
          as_aux_lemma =>
            have hWi : W[i]? = some (wrap64 (a1 + (i : Int))) := HW1.out i hlt2
            have hWg : W.getD i 0 = wrap64 (a1 + (i : Int)) := by rw [List.getD_eq_getElem?_getD, hWi]; rfl
            have hcur := hM.cur
            go_wp2_with (at_builtin; refine wpList_append_fits _ rfl (.tmp 76) (.tmp 84) 24 rfl w.heap.size 37 i37 4 Yba.underlying24 hi37 hs37 g i 32 (ecells W 0 i) rfl (hcur.alloc _) ⟨wr.heap.size, 0, none⟩ 1 1 [.int .i64 i, .int .i64 0, .int .i64 i, .int .i64 (wrap64 (a1 + (i : Int)))] rfl rfl ?c1 ?c2 ?c3 ?_)
            case c1 => exact list_new _ _ _
            case c2 => intro u hu; simp at hu; rcases hu with rfl | rfl | rfl | rfl <;> rfl
            case c3 => omega
            intro w1 ho1 hg1
            have hM1 := (hM.grown (World.grownBy_alloc wr _ none)).app (by unfold entc; rw [hWg]; exact ho1) hg1
            clear ho1 hg1 hM hcur
            have hwt := hM1.wt
            go_wp2_with (at_builtin; refine wpList_append_fits _ rfl _ _ 22 rfl w.heap.size 2 i2 1 Yba.underlying22 hi2 hs2 wg i (p + n) _ rfl (hwt.alloc _) ⟨w1.heap.size, 0, none⟩ 1 1 [.int .i64 (wrap64 (a1 + (i : Int)))] rfl rfl ?c1 ?c2 ?c3 ?_)
            case c1 => exact list_new _ _ _
            case c2 => intro u hu; simp at hu; subst hu; rfl
            case c3 => omega
            intro w2 ho2 hg2
            have hM2 := (hM1.grown (World.grownBy_alloc w1 _ none)).want hWi (by rw [List.map_take]; exact ho2) hg2
            clear ho2 hg2 hM1 hwt
            go_wp2
            go_roundw
            case rel => exact ⟨i + 1, rfl, by omega, rfl, rfl, hM2⟩
            case measure => simp [intOf]; omega
        · have hip : p = i := by omega
          subst hip
          have hme := fun w' => make_es w' n hn
          go_wp2_with fail
          have h3 := mk3_start hM n hn
          clear hme hM
          obtain ⟨wA, hwA⟩ : ∃ wA, wA = wr.alloc (.cells (esC n) 37) := ⟨_, rfl⟩
          rw [← hwA] at h3 ⊢
          obtain ⟨E, hE⟩ : ∃ E, E = wr.heap.size := ⟨_, rfl⟩
          rw [← hE] at h3 ⊢
          clear hwA hE
          clear wr
          go_loopw [17, 21, 95] (fun s17 s21 s95 wr => ∃ i : Nat, s95 = .int .i64 i ∧ i ≤ n ∧ s17 = .slice (some ⟨wg, 0, none⟩) (p + i) (p + n) ∧ s21 = .slice (some ⟨E, 0, none⟩) i n ∧ Mk3 w.heap.size w.heap.size lst w wr S sa scap W g wg (p + n) p (p + i) E n i) (fun _ _ i _ => n - (intOf i).toNat)
          case atStart => exact ⟨0, rfl, by omega, rfl, rfl, h3⟩
          case round =>
            clear h3
            clear wA
            obtain ⟨i, rfl, hi, rfl, rfl, hM⟩ := hrel
            by_cases hlt3 : i < n
            ·
              as_aux_lemma =>
                obtain ⟨b, off, rfl, hb, hcell⟩ := HA.out (by omega)
                have hWi := HW2.out i hlt3
                have hWg : W.getD (p + i) 0 = Z.getD i 0 := by rw [List.getD_eq_getElem?_getD, hWi]; rfl
                obtain ⟨z, hz⟩ : ∃ z, z = Z.getD i 0 := ⟨_, rfl⟩
                have hci : wr.cell? ⟨b, off + i, none⟩ = some (.int .i64 z) := by
                  rw [hz, ← hcell i hlt3]
                  exact hM.two.sp.bel.cell hb
                rw [← hz] at hWi hWg
                clear hz hcell
                have hcur := hM.es
                go_wp2_with (at_builtin; refine wpList_append_fits _ rfl (.tmp 99) (.tmp 107) 24 rfl w.heap.size 37 i37 4 Yba.underlying24 hi37 hs37 E i n (ecells W p i) rfl (hcur.alloc _) ⟨wr.heap.size, 0, none⟩ 1 1 [.int .i64 ((p : Int) + i), .int .i64 0, .int .i64 ((p : Int) + i), .int .i64 z] rfl rfl ?c1 ?c2 ?c3 ?_)
                case c1 => exact list_new _ _ _
                case c2 => intro u hu; simp at hu; rcases hu with rfl | rfl | rfl | rfl <;> rfl
                case c3 => omega
                intro w1 ho1 hg1
                have hM1 := (hM.grown (World.grownBy_alloc wr _ none)).app (by unfold entc; rw [hWg]; simpa using ho1) hg1
                clear ho1 hg1 hM hcur hci
                have hwt := hM1.two.wt
                go_wp2_with (at_builtin; refine wpList_append_fits _ rfl _ _ 22 rfl w.heap.size 2 i2 1 Yba.underlying22 hi2 hs2 wg (p + i) (p + n) _ rfl (hwt.alloc _) ⟨w1.heap.size, 0, none⟩ 1 1 [.int .i64 z] rfl rfl ?c1 ?c2 ?c3 ?_)
                case c1 => exact list_new _ _ _
                case c2 => intro u hu; simp at hu; subst hu; rfl
                case c3 => omega
                intro w2 ho2 hg2
                have hM2 := (hM1.grown (World.grownBy_alloc w1 _ none)).want hWi (by rw [List.map_take]; exact ho2) hg2
                clear ho2 hg2 hM1 hwt
                go_wp2
                go_roundw
                case rel => exact ⟨i + 1, rfl, by omega, rfl, rfl, hM2⟩
                case measure => simp [intOf]; omega
            · have hin : n = i := by omega
              subst hin
              clear HW1 HW2 hlt3 hi hlt2 hlt hk
              go_upto_if 114 with fail
              go_cut [24] from 39 (fun s24 wc => Base ⟨w.heap.size, w.heap.size, W, lst, preC a5, b0C a5, p, n, E, wg, p + n⟩ wc [] S sa scap s24 ∧ Cur ⟨w.heap.size, w.heap.size, W, lst, preC a5, b0C a5, p, n, E, wg, p + n⟩ wc [] S g p ∧ Below w.heap.size w wc)
              case first =>
                cases a5 with
                | true =>
                  go_wp2_with (at_builtin; refine wpList_append_own _ rfl _ _ 38 rfl w.heap.size 28 i28 _ 6 64 Yba.underlying38 hi28 hz28 hs28 hb28 rfl (by decide) _ _ [] rfl (World.ownsRow_nil _ _ _ _) ⟨wr.heap.size, 0, none⟩ 1 1 (preC true) rfl rfl ?c1 ?c2 ?c3 ?c4 ?c5 ?_)
                  case c1 => exact list_new _ _ _
                  case c2 => exact kid_one _ rfl _ _ _
                  case c3 => unfold maxLen; omega
                  case c4 => omega
                  case c5 => have := hM.two.sp.sz; simp; omega
                  intro v2 w2 ho2 hg2 _
                  have hM2 := (hM.grown (World.grownBy_alloc wr (.cells (preC true).toArray 28) none)).grown hg2
                  have hB := base_start (a5 := true) hM2 hp32 hWl ho2
                  as_aux_lemma =>
                    go_wp2
                    go_meet
                    case rel => exact ⟨hB.1, hB.2, hM2.two.sp.bel⟩
                | false =>
                  as_aux_lemma =>
                    have hB := base_start (a5 := false) hM hp32 hWl (World.ownsRow_nil _ _ _ _)
                    go_wp2
                    go_meet
                    case rel => exact ⟨hB.1, hB.2, hM.two.sp.bel⟩
              case rest =>
                obtain ⟨hba, hcu, hbel⟩ := hcut
                clear hM
                obtain ⟨va, vcap, hv⟩ := own_len hba.ot
                subst hv
                have hlay := lay_any ⟨w.heap.size, w.heap.size, W, lst, preC a5, b0C a5, p, n, E, wg, p + n⟩ wc S sa scap g _ hba hcu hp32 hn hWl (by cases a5 <;> simp [b0C]) (by omega) hba.sz
                clear hba hcu
                simp only [List.length_nil, Nat.add_zero] at hlay
                go_wp2_with fail
                refine hlay.mono ?_
                clear hlay
                rintro e w1 ⟨G, S', sa', scap', g', m, v', rfl, hba, hcu, hat, hz, hpos, hsp', hbel1⟩
                have hbelT := hbel.trans hbel1
                clear hbel hbel1
                obtain ⟨va', vcap', hv⟩ := own_len hba.ot
                subst hv
                simp only at hat hz hpos hba
                obtain ⟨G0, hG0⟩ : ∃ G0, G0 = G.length := ⟨_, rfl⟩
                rw [← hG0] at hat hba ⊢
                have HG : Hid (G0 = G.length ∧ p + n = G0 * 32 + m ∧ (n = 0 → G0 = 0) ∧ (0 < n → 0 < m) ∧ m ≤ 32 ∧ S'.length = k - G0) := ⟨hG0, hat, fun h => by rw [hG0, hz h]; rfl, hpos, hcu.le, by rw [hsp', hSl, hG0]⟩
                have bG : (G0 : Int) ≤ 40 := by omega
                have bm : (m : Int) ≤ 32 := by have := hcu.le; omega
                clear hG0 hat hz hpos hsp' hi
                go_upto_if 130 with fail
                go_cut [28] from 39 (fun s28 wc => wc = w1 ∧ s28 = .int .i64 G0)
                case first =>
                  as_aux_lemma =>
                    by_cases hn0 : n = 0
                    · have HN : Hid (n = 0) := hn0
                      have e1 : ¬ (0 : Int) < (n : Int) := by omega
                      clear hn0
                      go_wp2
                      go_meet
                      case rel => exact ⟨rfl, by rw [HG.out.2.2.1 HN.out]; rfl⟩
                    · have HN : Hid (0 < n) := Nat.pos_of_ne_zero hn0
                      have e1 : (0 : Int) < (n : Int) := by omega
                      clear hn0
                      go_wp2
                      go_meet
                      case rel =>
                        refine ⟨rfl, ?_⟩
                        have h1 := HG.out
                        have h2 := h1.2.2.2.1 HN.out
                        congr 1
                        omega
                case rest =>
                  obtain ⟨hw, rfl⟩ := hcut
                  subst hw
                  obtain ⟨b0, hb0⟩ : ∃ b0, b0 = b0C a5 := ⟨_, rfl⟩
                  have HB : Hid (b0 = b0C a5) := hb0
                  have bb : (b0 : Int) ≤ 1 := by rw [hb0]; cases a5 <;> simp [b0C]
                  rw [← hb0] at hba hcu ⊢
                  clear hb0
                  go_upto_region 36 with fail
                  go_cut [164] from 39 (fun s164 wd => wd = wc ∧ s164 = .bool false)
                  case first =>
                    as_aux_lemma =>
                      cases a5 with
                      | true =>
                        have hb1 : b0 = 1 := HB.out
                        subst hb1
                        obtain ⟨R, cap', hv, _⟩ := hba.ot.form (by simp only; omega)
                        have hR : va' = some ⟨R, 0, none⟩ := by simp only [Value.slice.injEq] at hv; exact hv.1
                        subst hR
                        have hot := hba.ot
                        simp only [← HG.out.1] at hot
                        have q : ∀ j, j < 6 → wc.cell? ⟨R, j, none⟩ = (preC true)[j]? := fun j hj => by
                          rw [hot.cellAt j (by omega)]
                          exact List.getElem?_append_left (by simpa [preC] using hj)
                        have q0 : wc.cell? ⟨R, 0, none⟩ = some (.pointer none) := q 0 (by omega)
                        have q1 : wc.cell? ⟨R, 1, none⟩ = some (.slice none 0 0) := q 1 (by omega)
                        have q4 : wc.cell? ⟨R, 4, none⟩ = some (.int .i64 7) := q 4 (by omega)
                        clear q hv hot
                        have bG1 : (0 : Int) < 1 + (G0 : Int) := by omega
                        have hsn : ∀ w' : World, (binOp .neq 24 (.slice none 0 0) (.slice none 0 0)).run Yba.prog w' = .ok (.bool false) w' := fun w' => by simpa using run_neq_slice_nil_any (P := Yba.prog) w' 24 37 none 0 0 0 0 Yba.underlying24
                        go_wp2
                        go_meet
                        case rel => exact ⟨rfl, rfl⟩
                      | false =>
                        go_wp2
                        go_meet
                        case rel => exact ⟨rfl, rfl⟩
                  case rest =>
                    obtain ⟨hw, rfl⟩ := hcut
                    subst hw
                    have eL : (m : Int) = (p : Int) + n - 32 * G0 := by have := HG.out; omega
                    go_upto_if 177 with fail
                    go_cut [29] from 39 (fun s29 wd => wd = wc ∧ s29 = .int .i64 S'.length)
                    case first =>
                      as_aux_lemma =>
                        by_cases hlt4 : k < G0
                        · have e1 : ((k : Int) - (G0 : Int)) < 0 := by omega
                          go_wp2
                          go_meet
                          case rel => exact ⟨rfl, by have h := HG.out; congr 1; omega⟩
                        · have e1 : ¬ ((k : Int) - (G0 : Int)) < 0 := by omega
                          go_wp2
                          go_meet
                          case rel => exact ⟨rfl, by have h := HG.out; congr 1; omega⟩
                    case rest =>
                      obtain ⟨hw, rfl⟩ := hcut
                      subst hw
                      clear eL
                      have h11 : wc.cell? ⟨w.heap.size, 11, none⟩ = some (.slice sa' S'.length scap') := by rw [cell_of_row wc _ 11 _ 35 (0, 0) hba.tb]; rfl
                      go_wp2_with fail
                      clear h11
                      go_loopw [30, 31] (fun s30 s31 wr => ∃ t j a : Nat, s31 = .int .i64 j ∧ s30 = .int .i64 a ∧ j = b0 + t ∧ a = t * 32 ∧ t ≤ G0 ∧ wc.grownBy wr none) (fun _ s31 _ => b0 + G0 - (intOf s31).toNat)
                      case atStart => exact ⟨0, b0, 0, rfl, rfl, rfl, rfl, by omega, grown_refl _⟩
                      case round =>
                        obtain ⟨t, j, a, rfl, rfl, hj, ha, ht, hgr⟩ := hrel
                        have HJ : Hid (j = b0 + t ∧ a = t * 32) := ⟨hj, ha⟩
                        by_cases hlt5 : t < G0
                        · have bj : (j : Int) < (b0 : Int) + (G0 : Int) := by omega
                          have ba : (a : Int) ≤ 1300 := by omega
                          have hbr := hba.grown hgr
                          obtain ⟨R, cap', hv, _⟩ := hbr.ot.form (by have := HG.out.1; simp only; omega)
                          have hR : va' = some ⟨R, 0, none⟩ := by simp only [Value.slice.injEq] at hv; exact hv.1
                          subst hR
                          clear hv
                          obtain ⟨b, hb⟩ : ∃ b, G[t]? = some b := ⟨_, List.getElem?_eq_getElem (by have := HG.out.1; omega)⟩
                          have q : ∀ r, r < 6 → wr.cell? ⟨R, j * 6 + r, none⟩ = (chd W lst t b)[r]? := fun r hr => by
                            have h := hbr.kid (by have := HB.out; simp only; rw [this]; exact pre_len a5) hb r hr
                            rw [hj]
                            exact h
                          have q0 : wr.cell? ⟨R, j * 6, none⟩ = some (.pointer none) := q 0 (by omega)
                          have q1 : wr.cell? ⟨R, j * 6 + 1, none⟩ = some (.slice (some ⟨b, 0, none⟩) 32 32) := q 1 (by omega)
                          have q2 : wr.cell? ⟨R, j * 6 + 2, none⟩ = some (.int .i64 a) := by rw [ha]; exact q 2 (by omega)
                          have q3 : wr.cell? ⟨R, j * 6 + 3, none⟩ = some (.int .i64 0) := q 3 (by omega)
                          have q4 : wr.cell? ⟨R, j * 6 + 4, none⟩ = some (.int .i64 (sumL (wsl W a 32))) := by rw [ha]; exact q 4 (by omega)
                          have q5 : wr.cell? ⟨R, j * 6 + 5, none⟩ = some (.int .i64 (lowV lst (wsl W a 32))) := by rw [ha]; exact q 5 (by omega)
                          clear q hbr hj ha
                          go_wp2_with fail
                          clear q0 q1 q2 q3 q4 q5
                          obtain ⟨Hc, hHc⟩ : ∃ Hc, Hc = wr.heap.size := ⟨_, rfl⟩
                          rw [← hHc]
                          go_loopw [30, 33, 34, 211] (fun s30 s33 s34 s211 wv => ∃ i x : Nat, s211 = .int .i64 i ∧ s30 = .int .i64 x ∧ x = a + i ∧ i ≤ 32 ∧ s33 = .int .i64 (sumL (wsl W a i)) ∧ s34 = .int .i64 (lowV lst (wsl W a i)) ∧ wc.grownBy wv none ∧ wv.heap[Hc]? = some (.cells (kidc (.slice (some ⟨b, 0, none⟩) 32 32) a (sumL (wsl W a 32)) (lowV lst (wsl W a 32))) 28 (0, 0))) (fun _ _ _ i _ => 32 - (intOf i).toNat)
                          case atStart => exact ⟨0, a, rfl, rfl, rfl, by omega, rfl, by cases lst <;> rfl, grown_trans hgr (World.grownBy_alloc _ _ _), by rw [hHc]; exact heap_alloc_new _ _⟩
                          case round =>
                            clear hHc hgr
                            obtain ⟨i, x, rfl, rfl, hx, hi, rfl, rfl, hgv, hkid⟩ := hrel
                            have HX : Hid (x = a + i) := hx
                            have hbv := hba.grown hgv
                            by_cases hlt6 : i < 32
                            · have hrow : wr.ownsRow w.heap.size 37 4 (.slice (some ⟨b, 0, none⟩) 32 32) 32 (ecells W a 32) := by have h := hbv.dn t b hb; rw [HJ.out.2]; exact h
                              have q : ∀ r, r < 4 → wr.cell? ⟨b, i * 4 + r, none⟩ = (entc W x)[r]? := fun r hr => by
                                rw [hrow.cellAt (i * 4 + r) (by omega), ecells_get W a 32 i r hlt6 hr, hx]
                              obtain ⟨y, hy⟩ : ∃ y, y = W.getD x 0 := ⟨_, rfl⟩
                              have q0 : wr.cell? ⟨b, i * 4, none⟩ = some (.int .i64 x) := q 0 (by omega)
                              have q1 : wr.cell? ⟨b, i * 4 + 1, none⟩ = some (.int .i64 0) := q 1 (by omega)
                              have q2 : wr.cell? ⟨b, i * 4 + 2, none⟩ = some (.int .i64 x) := q 2 (by omega)
                              have q3 : wr.cell? ⟨b, i * 4 + 3, none⟩ = some (.int .i64 y) := by rw [hy]; exact q 3 (by omega)
                              have hxN : x < p + n := by have h1 := HG.out.2.1; have h2 := HJ.out.2; omega
                              have hwt : wr.ownsRow w.heap.size 2 1 (.slice (some ⟨wg, 0, none⟩) (p + n) (p + n)) (p + n) (W.map (Value.int .i64)) := by have h := hbv.wt; simp only at h; rw [hWl] at h; exact h
                              have hws : wsl W a (i + 1) = wsl W a i ++ [y] := by rw [wsl_succ W a i (by rw [hWl]; omega), hy, hx]
                              have HW : Hid (wsl W a (i + 1) = wsl W a i ++ [y]) := hws
                              have hbok := fun o => bok_any W wg _ _ (p + n) x (wr.alloc o) hxN (hwt.alloc o)
                              rw [← hy] at hbok
                              have bx : (x : Int) ≤ 2000 := by omega
                              have hHlt := (Array.getElem?_eq_some_iff.1 hkid).1
                              clear q hrow hx hy hws hwt hbv
                              go_wp2_with fail
                              refine (hbok _).mono ?_
                              clear hbok
                              rintro e w6 ⟨rfl, hg6⟩
                              have hgw := grown_trans (grown_trans hgv (World.grownBy_alloc wr (.cells #[.int .i64 x, .int .i64 0, .int .i64 x, .int .i64 y] 37) none)) hg6
                              have hE : w6.cell? ⟨wr.heap.size, 3, none⟩ = some (.int .i64 y) := by
                                rw [cell_of_row w6 _ 3 _ 37 (0, 0) ((hg6.block _ (by simp) (by simp)).trans (heap_alloc_new wr _))]
                                rfl
                              have hkid6 : w6.heap[Hc]? = some (.cells (kidc (.slice (some ⟨b, 0, none⟩) 32 32) a (sumL (wsl W a 32)) (lowV lst (wsl W a 32))) 28 (0, 0)) := by
                                rw [hg6.block _ (by simp; omega) (by simp), heap_alloc_old _ _ hHlt]
                                exact hkid
                              have HK : Hid (w6.heap[Hc]? = some (.cells (kidc (.slice (some ⟨b, 0, none⟩) 32 32) a (sumL (wsl W a 32)) (lowV lst (wsl W a 32))) 28 (0, 0))) := hkid6
                              clear hg6 hkid hkid6 q0 q1 q2 q3 hgv
                              generalize hS : sumL (wsl W a i) = Sx
                              have HS : Hid (sumL (wsl W a i) = Sx) := hS
                              generalize hM : lowV lst (wsl W a i) = Mx
                              have HM : Hid (lowV lst (wsl W a i) = Mx) := hM
                              clear hS hM
                              cases lst with
                              | false =>
                                go_wp2_with fail
                                go_roundw
                                case rel => exact ⟨i + 1, x + 1, by go_num, by go_num, by have := HX.out; omega, by omega, by rw [HW.out, sumL_snoc, HS.out], by rw [← HM.out]; rfl, hgw, HK.out⟩
                                case measure => simp [intOf]; omega
                              | true =>
                                by_cases hi0 : i = 0
                                · subst hi0
                                  go_wp2_with fail
                                  go_roundw
                                  case rel => exact ⟨1, x + 1, by go_num, by go_num, by have := HX.out; omega, by omega, by show _ = Value.int .i64 (sumL (wsl W a (0 + 1))); rw [HW.out, sumL_snoc, HS.out], by show _ = Value.int .i64 (lowV true (wsl W a (0 + 1))); rw [HW.out]; simp [wsl, lowV, lowL_one], hgw, HK.out⟩
                                  case measure => simp [intOf]
                                · have hk1 : ((i : Int) == 0) = false := by simp; omega
                                  have hne : wsl W a i ≠ [] := fun e => by
                                    have h1 := congrArg List.length e
                                    have h2 := HX.out
                                    simp [wsl] at h1
                                    omega
                                  have HL : Hid (lowV true (wsl W a i ++ [y]) = if y < Mx then y else Mx) := by
                                    have h := lowL_snoc (wsl W a i) y hne
                                    have h2 := HM.out
                                    rw [lowV_true] at h2
                                    rw [h2] at h
                                    exact h
                                  clear hne
                                  by_cases hxl : y < Mx
                                  · have hxx := hxl
                                    go_wp2_with fail
                                    go_roundw
                                    case rel => exact ⟨i + 1, x + 1, by go_num, by go_num, by have := HX.out; omega, by omega, by rw [HW.out, sumL_snoc, HS.out], by rw [HW.out, HL.out, if_pos hxl], hgw, HK.out⟩
                                    case measure => simp [intOf]; omega
                                  · have hxx : Mx ≤ y := by omega
                                    go_wp2_with fail
                                    go_roundw
                                    case rel => exact ⟨i + 1, x + 1, by go_num, by go_num, by have := HX.out; omega, by omega, by rw [HW.out, sumL_snoc, HS.out], by rw [HW.out, HL.out, if_neg (by omega)], hgw, HK.out⟩
                                    case measure => simp [intOf]; omega
                            · have hi32 : i = 32 := by omega
                              subst hi32
                              have k4 : wr.cell? ⟨Hc, 4, none⟩ = some (.int .i64 (sumL (wsl W a 32))) := by rw [cell_of_row wr _ 4 _ 28 (0, 0) hkid]; rfl
                              have k5 : wr.cell? ⟨Hc, 5, none⟩ = some (.int .i64 (lowV lst (wsl W a 32))) := by rw [cell_of_row wr _ 5 _ 28 (0, 0) hkid]; rfl
                              clear hkid hbv hx
                              go_wp2_with fail
                              go_roundw
                              case rel => exact ⟨t + 1, j + 1, x, by go_num, rfl, by have := HJ.out; omega, by have := HJ.out; have := HX.out; omega, by omega, hgv⟩
                              case measure => simp [intOf]; omega
                        · have bj : (b0 : Int) + (G0 : Int) ≤ (j : Int) := by omega
                          have bj2 : ¬ (j : Int) < (b0 : Int) + (G0 : Int) := by omega
                          have HT : Hid (t = G0) := by show t = G0; omega
                          have ba : (a : Int) ≤ 1300 := by omega
                          clear hj ha
                          go_wp2_with fail
                          go_loopw [30, 253] (fun s30 s253 wv => ∃ i x : Nat, s253 = .int .i64 i ∧ s30 = .int .i64 x ∧ x = a + i ∧ i ≤ m ∧ wc.grownBy wv none) (fun _ i _ => m - (intOf i).toNat)
                          case atStart => exact ⟨0, a, rfl, rfl, rfl, by omega, hgr⟩
                          case round =>
                            clear hgr
                            obtain ⟨i, x, rfl, rfl, hx, hi, hgv⟩ := hrel
                            have HX : Hid (x = a + i) := hx
                            have hbv := hba.grown hgv
                            by_cases hlt7 : i < m
                            · have haG : a = G.length * 32 := by have h1 := HG.out.1; have h2 := HT.out; have h3 := HJ.out.2; omega
                              have hrow : wr.ownsRow w.heap.size 37 4 (.slice (some ⟨g', 0, none⟩) m 32) m (ecells W a m) := by
                                have h := own_keep hcu.row hgv (fun _ _ => by simp)
                                rw [haG]
                                exact h
                              have q : ∀ r, r < 4 → wr.cell? ⟨g', i * 4 + r, none⟩ = (entc W x)[r]? := fun r hr => by
                                rw [hrow.cellAt (i * 4 + r) (by omega), ecells_get W a m i r hlt7 hr, hx]
                              obtain ⟨y, hy⟩ : ∃ y, y = W.getD x 0 := ⟨_, rfl⟩
                              have q0 : wr.cell? ⟨g', i * 4, none⟩ = some (.int .i64 x) := q 0 (by omega)
                              have q1 : wr.cell? ⟨g', i * 4 + 1, none⟩ = some (.int .i64 0) := q 1 (by omega)
                              have q2 : wr.cell? ⟨g', i * 4 + 2, none⟩ = some (.int .i64 x) := q 2 (by omega)
                              have q3 : wr.cell? ⟨g', i * 4 + 3, none⟩ = some (.int .i64 y) := by rw [hy]; exact q 3 (by omega)
                              have hxN : x < p + n := by have h1 := HG.out.2.1; have h2 := HJ.out.2; have h3 := HT.out; omega
                              have hwt : wr.ownsRow w.heap.size 2 1 (.slice (some ⟨wg, 0, none⟩) (p + n) (p + n)) (p + n) (W.map (Value.int .i64)) := by have h := hbv.wt; simp only at h; rw [hWl] at h; exact h
                              have hbok := fun o => bok_any W wg _ _ (p + n) x (wr.alloc o) hxN (hwt.alloc o)
                              rw [← hy] at hbok
                              have bx : (x : Int) ≤ 2000 := by omega
                              have bx2 : (x : Int) < (p : Int) + n := by omega
                              have bi : (i : Int) < (m : Int) := by omega
                              clear q hrow hx hy hwt hbv haG
                              go_wp2_with fail
                              refine (hbok _).mono ?_
                              clear hbok
                              rintro e w6 ⟨rfl, hg6⟩
                              have hgw := grown_trans (grown_trans hgv (World.grownBy_alloc wr (.cells #[.int .i64 x, .int .i64 0, .int .i64 x, .int .i64 y] 37) none)) hg6
                              clear hg6 q0 q1 q2 q3 hgv
                              go_wp2_with fail
                              go_roundw
                              case rel => exact ⟨i + 1, x + 1, by go_num, by go_num, by have := HX.out; omega, by omega, hgw⟩
                              case measure => simp [intOf]; omega
                            · have hxe : (x : Int) = (p : Int) + n := by have h1 := HG.out.2.1; have h2 := HJ.out.2; have h3 := HT.out; omega
                              have hbelE := hbelT.grown hgv hba.sz (fun k h => by cases h)
                              have bi : ¬ (i : Int) < (m : Int) := by omega
                              clear hbv hx
                              go_wp2_with fail
                              go_ret
                              exact ⟨rfl, hbelE⟩
end Go.Proofs.Ybulkakwk
