/-
  sip.LawS1831BForget (function 3): the walk.
-/
import Derived.Test.YbulkakwyForget
namespace Go.Proofs.Ybulkakwy
open Go.RowKit Go.ChangeMaps
set_option linter.unusedVariables false
attribute [local go_sem ↓] Go.wp_at_zero Go.wp_at_succ

/-! ### New blocks, one behind the other -/
def allocs (w : World) : List Obj → World
  | [] => w
  | o :: l => allocs (w.alloc o) l

theorem allocs_size : ∀ (l : List Obj) (w : World), (allocs w l).heap.size = w.heap.size + l.length
  | [], w => rfl
  | o :: l, w => by
    show (allocs (w.alloc o) l).heap.size = _
    rw [allocs_size l (w.alloc o)]
    simp
    omega
theorem allocs_old : ∀ (l : List Obj) (w : World) (k : Nat), k < w.heap.size → (allocs w l).heap[k]? = w.heap[k]?
  | [], _, _, _ => rfl
  | o :: l, w, k, h => by
    show (allocs (w.alloc o) l).heap[k]? = _
    rw [allocs_old l (w.alloc o) k (by simp; omega), Below.heap_alloc w o k h]
theorem allocs_at : ∀ (l : List Obj) (w : World) (i : Nat) (o : Obj), l[i]? = some o → (allocs w l).heap[w.heap.size + i]? = some o
  | [], _, _, _, h => by simp at h
  | x :: l, w, 0, o, h => by
    simp at h
    subst h
    show (allocs (w.alloc x) l).heap[w.heap.size + 0]? = _
    rw [allocs_old l (w.alloc x) _ (by simp)]
    exact heap_alloc_new w x
  | x :: l, w, i + 1, o, h => by
    have := allocs_at l (w.alloc x) i o (by simpa using h)
    have e : (w.alloc x).heap.size + i = w.heap.size + (i + 1) := by simp; omega
    rw [e] at this
    exact this
theorem allocs_below : ∀ (l : List Obj) (w : World), Below w.heap.size w (allocs w l)
  | [], w => Below.refl _ _
  | o :: l, w => ((Below.refl _ w).alloc (Nat.le_refl _) o).trans ((allocs_below l (w.alloc o)).mono (by simp))

def nums (B : Nat) : Nums := { T := B + 1, O := B + 2, I := B + 3, C := B + 4, D := B + 5, S := B + 6, K := B, K2 := B + 7, G := B + 8, G2 := B + 9 }

def objs (B : Nat) (key call frm tag : ByteArray) (cseq : Int) : List Obj :=
  [.cells #[.string call, .string frm, .int .u32 cseq] 24, .cells (txc key call frm tag cseq) 53, .cells (txc (key ++ oo) call frm tag cseq) 53, .map #[] 0, .map #[] 0, .map #[] 0,
    .cells (svc 0 (B + 3) (B + 4) (B + 5)) 69, .cells #[.string (call ++ xx), .string frm, .int .u32 cseq] 24, .cells #[.string call, .string frm, .string tag] 71, .cells #[.string call, .string frm, .string (tag ++ xx)] 71]

theorem st_start (w : World) (key call frm tag : ByteArray) (cseq : Int) : St w (allocs w (objs w.heap.size key call frm tag cseq)) (nums w.heap.size) key call frm tag cseq 0 (#[], 0) (#[], 0) (#[], 0) := by
  refine ⟨?_, ?_, ?_, ?_, ?_, ?_, ?_, ?_, ?_, ?_, by simp [nums], by simp [nums], by simp [nums], allocs_below _ _, by simp [nums]⟩
  · exact allocs_at _ w 1 _ rfl
  · exact allocs_at _ w 2 _ rfl
  · exact allocs_at _ w 0 _ rfl
  · exact allocs_at _ w 7 _ rfl
  · exact allocs_at _ w 8 _ rfl
  · exact allocs_at _ w 9 _ rfl
  · exact allocs_at _ w 6 _ rfl
  · exact allocs_at _ w 3 _ rfl
  · exact allocs_at _ w 4 _ rfl
  · exact allocs_at _ w 5 _ rfl

/-! ### The law's own helpers -/
/-- What a look-up finds behind forget. -/
def gv (n : Nums) (s : Nat) : Value := if s = 2 then .pointer (some ⟨n.O, 0, none⟩) else .pointer none
/-- How many entries there are behind forget. -/
def wantZ (s : Nat) : Int := if s = 2 then 2 else 1

set_option maxHeartbeats 1000000 in
theorem after_any (n : Nums) (s : Nat) (hs : s < 3) (w : World) : Calls Yba.prog 7 #[.int .i64 s, gv n s, .bool (decide (s = 2)), .pointer (some ⟨n.O, 0, none⟩)] w fun e w' => e = .returned (.bool true) ∧ w = w' := by
  have q := eql_same
  by_cases h2 : s = 2
  · subst h2
    simp only [gv]
    go_enter Yba.func7, Yba.ntmps7
    go_wp2
    go_ret
    exact ⟨rfl, rfl⟩
  · have e1 : gv n s = .pointer none := by simp [gv, h2]
    have e2 : decide (s = 2) = false := by simp [h2]
    have e3 : ((s : Int) == 2) = false := by simp; omega
    rw [e1, e2]
    clear e1 e2 hs
    go_enter Yba.func7, Yba.ntmps7
    go_wp2
    go_ret
    exact ⟨rfl, rfl⟩

set_option maxHeartbeats 1000000 in
theorem want_any (s : Nat) (w : World) : Calls Yba.prog 8 #[.int .i64 s] w fun e w' => e = .returned (.int .i64 (wantZ s)) ∧ w = w' := by
  by_cases h2 : s = 2
  · subst h2
    go_enter Yba.func8, Yba.ntmps8
    go_wp2
    go_ret
    exact ⟨rfl, rfl⟩
  · have e1 : wantZ s = 1 := by simp [wantZ, h2]
    have e3 : ((s : Int) == 2) = false := by simp; omega
    rw [e1]
    clear e1
    go_enter Yba.func8, Yba.ntmps8
    go_wp2
    go_ret
    exact ⟨rfl, rfl⟩

theorem aft_size (k2 k tx oth : Value) (s : Nat) : ((aft k2 k tx oth s).1.size : Int) = wantZ s := by
  unfold aft wantZ
  by_cases h1 : s = 1
  · subst h1; rfl
  · by_cases h2 : s = 2
    · subst h2; rfl
    · simp [h1, h2]

theorem Keys.behind {kt : TypeId} {k k2 : Value} (K : Keys kt k k2) (n : Nums) (s : Nat) (hs : s < 3) : ∃ f, Finds kt k (aft k2 k (ptr n.T) (ptr n.O) s).1.toList f ∧ (f.map (·.2)).getD (.pointer none) = gv n s ∧ f.isSome = decide (s = 2) := by
  rcases (show s = 0 ∨ s = 1 ∨ s = 2 by omega) with rfl | rfl | rfl
  · exact ⟨_, K.aft0, rfl, rfl⟩
  · exact ⟨_, K.aft1, rfl, rfl⟩
  · exact ⟨_, K.aft2, rfl, rfl⟩

theorem look_behind {t kt : TypeId} {k k2 : Value} (K : Keys kt k k2) (n : Nums) (s : Nat) (hs : s < 3) {W : World} {r c : Nat} (ht : Yba.prog.underlying t = some (.map kt 25)) (hb : W.heap[r]? = some (.map (aft k2 k (ptr n.T) (ptr n.O) s).1 c)) :
    (Instr.lookup t (.map (some r)) k true).run Yba.prog W = .ok (.tuple #[gv n s, .bool (decide (s = 2))]) W := by
  obtain ⟨f, hf, e1, e2⟩ := K.behind n s hs
  rw [lookup_run ht hb hf true, e1, e2]
  rfl
theorem look_two {t kt : TypeId} {k k2 : Value} (K : Keys kt k k2) (n : Nums) (s : Nat) {W : World} {r c : Nat} (ht : Yba.prog.underlying t = some (.map kt 25)) (hb : W.heap[r]? = some (.map (aft k2 k (ptr n.T) (ptr n.O) s).1 c)) :
    (Instr.lookup t (.map (some r)) k2 false).run Yba.prog W = .ok (.pointer (some ⟨n.T, 0, none⟩)) W :=
  lookup_run ht hb (K.two s) false
theorem len_behind {t kt ty : TypeId} {k k2 : Value} (n : Nums) (s : Nat) {W : World} {r c : Nat} (ht : Yba.prog.underlying t = some (.map kt 25)) (hb : W.heap[r]? = some (.map (aft k2 k (ptr n.T) (ptr n.O) s).1 c)) :
    (Builtin.len_ #[t] ty #[.map (some r)]).run Yba.prog W = .ok (.int .i64 (wantZ s)) W := by
  rw [len_run ht hb, aft_size]

theorem ent_zero (k2 k tx oth : Value) : ((#[] : Array MapEntry).push ⟨k2, tx, 0⟩, 0 + 1) = ent k2 k tx oth 0 := rfl
theorem ent_one (k2 k tx oth : Value) : ((ent k2 k tx oth 0).1.push ⟨k, tx, (ent k2 k tx oth 0).2⟩, (ent k2 k tx oth 0).2 + 1) = ent k2 k tx oth 1 := rfl
theorem ent_two (k2 k tx oth : Value) : ((ent k2 k tx oth 0).1.push ⟨k, oth, (ent k2 k tx oth 0).2⟩, (ent k2 k tx oth 0).2 + 1) = ent k2 k tx oth 2 := rfl

set_option maxHeartbeats 16000000 in
set_option maxRecDepth 1000000 in
theorem law_walk (a0 : ByteArray) (a1 : ByteArray) (a2 : ByteArray) (a3 : ByteArray) (a4 : Int) (a5 : Int) (w0 : a0.size ≤ 140737488351232) (w1 : a1.size ≤ 140737488351232) (w2 : a2.size ≤ 140737488351232) (w3 : a3.size ≤ 140737488351232) (w5 : 0 ≤ a5 ∧ a5 ≤ 255) (w : World)
    (si sc sd : Nat) (hsi : a5 % 3 = si) (hsc : a5 / 3 % 3 = sc) (hsd : a5 / 9 % 3 = sd)
    (KI : Keys 9 (.string a0) (.string (a0 ++ xx)))
    (KC : Keys 24 (.agg #[.string a1, .string a2, .int .u32 a4]) (.agg #[.string (a1 ++ xx), .string a2, .int .u32 a4]))
    (KD : Keys 71 (.agg #[.string a1, .string a2, .string a3]) (.agg #[.string a1, .string a2, .string (a3 ++ xx)])) :
    Calls Yba.prog 3 #[.string a0, .string a1, .string a2, .string a3, .int .u32 a4, .int .u8 a5] w fun e w' => e = .returned (.bool true) ∧ Below w.heap.size w w' := by
  have hmm := @run_makeMap Yba.prog
  go_enter Yba.func3, Yba.ntmps3
  go_upto_region 11 with fail
  go_cut [13, 14, 15, 16, 17, 18, 19, 20, 21, 22, 23] from 30 (fun s13 s14 s15 s16 s17 s18 s19 s20 s21 s22 s23 wc => ∃ n : Nums, n.T ≠ n.O ∧ s13 = .int .i64 si ∧ s14 = .int .i64 sc ∧ s15 = .int .i64 sd ∧ s16 = .pointer (some ⟨n.K, 0, none⟩) ∧
    s17 = .pointer (some ⟨n.T, 0, none⟩) ∧ s18 = .pointer (some ⟨n.O, 0, none⟩) ∧ s19 = .pointer (some ⟨n.S, 0, none⟩) ∧ s20 = .string (a0 ++ xx) ∧ s21 = .pointer (some ⟨n.K2, 0, none⟩) ∧ s22 = .pointer (some ⟨n.G, 0, none⟩) ∧ s23 = .pointer (some ⟨n.G2, 0, none⟩) ∧
    St w wc n a0 a1 a2 a3 a4 0 (#[], 0) (#[], 0) (#[], 0))
  case first =>
    as_aux_lemma =>
      go_wp2
      go_meet
      case rel =>
        refine ⟨nums w.heap.size, by simp [nums], ?_, ?_, ?_, rfl, rfl, rfl, rfl, rfl, rfl, rfl, rfl, ?_⟩
        · go_num
        · go_num
        · go_num
        · exact st_start w a0 a1 a2 a3 a4
  case rest =>
    obtain ⟨n, hTO, rfl, rfl, rfl, rfl, rfl, rfl, rfl, rfl, rfl, rfl, rfl, h1⟩ := hcut
    have hsi3 : si < 3 := by omega
    have hsc3 : sc < 3 := by omega
    have hsd3 : sd < 3 := by omega
    clear hmm hsi hsc hsd w0 w1 w2 w3 w5
    go_upto_region 12 with fail
    go_cut [] from 30 (fun wc => St w wc n a0 a1 a2 a3 a4 0 (eI n a0 0) (#[], 0) (#[], 0))
    case first =>
      as_aux_lemma =>
        have hA := h1
        have s5 : wc.cell? ⟨n.S, 5, none⟩ = some (.map (some n.I)) := cellAt hA.sv _ rfl
        have up := update_run (v := .pointer (some ⟨n.T, 0, none⟩)) Yba.underlying54 hA.mi KI.new2
        have hC : ∃ W3, (Instr.mapUpdate 54 (.map (some n.I)) (.string (a0 ++ xx)) (.pointer (some ⟨n.T, 0, none⟩))).run Yba.prog wc = .ok () W3 ∧ St w W3 n a0 a1 a2 a3 a4 0 (eI n a0 0) (#[], 0) (#[], 0) := ⟨_, up, (hA.turnI _ _).eqI (ent_zero _ _ _ _)⟩
        clear up h1 hA
        obtain ⟨W3, up, hB⟩ := hC
        go_wp2
        go_meet
        case rel => exact hB
    case rest =>
      have h2 := hcut
      clear h1 hcut
      as_aux_lemma =>
        go_upto_region 13 with fail
        go_cut [] from 30 (fun wc => St w wc n a0 a1 a2 a3 a4 0 (eI n a0 0) (eC n a1 a2 a4 0) (#[], 0))
        case first =>
          as_aux_lemma =>
            have hA := h2.grown (grown_drew wc)
            have s6 : wc.drew.cell? ⟨n.S, 6, none⟩ = some (.map (some n.C)) := cellAt hA.sv _ rfl
            have k0 : wc.drew.cell? ⟨n.K2, 0, none⟩ = some (.string (a1 ++ xx)) := cellAt hA.k2 _ rfl
            have k1 : wc.drew.cell? ⟨n.K2, 1, none⟩ = some (.string a2) := cellAt hA.k2 _ rfl
            have k2 : wc.drew.cell? ⟨n.K2, 2, none⟩ = some (.int .u32 a4) := cellAt hA.k2 _ rfl
            have up := update_run (v := .pointer (some ⟨n.T, 0, none⟩)) Yba.underlying55 hA.mc KC.new2
            have hC : ∃ W3, (Instr.mapUpdate 55 (.map (some n.C)) (.agg #[.string (a1 ++ xx), .string a2, .int .u32 a4]) (.pointer (some ⟨n.T, 0, none⟩))).run Yba.prog wc.drew = .ok () W3 ∧ St w W3 n a0 a1 a2 a3 a4 0 (eI n a0 0) (eC n a1 a2 a4 0) (#[], 0) := ⟨_, up, (hA.turnC _ _).eqC (ent_zero _ _ _ _)⟩
            clear up h2
            obtain ⟨W3, up, hB⟩ := hC
            go_upto_region 13 with fail
            have z1 : wc.drew.cell? ⟨n.S, 6, none⟩ = some (.map (some n.C)) ∧ wc.drew.cell? ⟨n.K2, 0, none⟩ = some (.string (a1 ++ xx)) ∧ wc.drew.cell? ⟨n.K2, 1, none⟩ = some (.string a2) ∧ wc.drew.cell? ⟨n.K2, 2, none⟩ = some (.int .u32 a4) := ⟨cellAt hA.sv _ rfl, cellAt hA.k2 _ rfl, cellAt hA.k2 _ rfl, cellAt hA.k2 _ rfl⟩
            have z2 : W3.cell? ⟨n.S, 6, none⟩ = some (.map (some n.C)) ∧ W3.cell? ⟨n.K2, 0, none⟩ = some (.string (a1 ++ xx)) ∧ W3.cell? ⟨n.K2, 1, none⟩ = some (.string a2) ∧ W3.cell? ⟨n.K2, 2, none⟩ = some (.int .u32 a4) := ⟨cellAt hB.sv _ rfl, cellAt hB.k2 _ rfl, cellAt hB.k2 _ rfl, cellAt hB.k2 _ rfl⟩
            clear hA s6 k0 k1 k2
            go_region_held3 (fun w' => w'.cell? ⟨n.S, 6, none⟩ = some (.map (some n.C)) ∧ w'.cell? ⟨n.K2, 0, none⟩ = some (.string (a1 ++ xx)) ∧ w'.cell? ⟨n.K2, 1, none⟩ = some (.string a2) ∧ w'.cell? ⟨n.K2, 2, none⟩ = some (.int .u32 a4)) (first | exact z1 | exact z2) (fail)
            go_wp2
            go_meet
            case rel => exact hB
        case rest =>
          have h3 := hcut
          clear h2 hcut
          as_aux_lemma =>
            go_upto_region 14 with fail
            go_cut [] from 30 (fun wc => St w wc n a0 a1 a2 a3 a4 0 (eI n a0 0) (eC n a1 a2 a4 0) (eD n a1 a2 a3 0))
            case first =>
              as_aux_lemma =>
                have hA := h3.grown (grown_drew wc)
                have s7 : wc.drew.cell? ⟨n.S, 7, none⟩ = some (.map (some n.D)) := cellAt hA.sv _ rfl
                have k0 : wc.drew.cell? ⟨n.G2, 0, none⟩ = some (.string a1) := cellAt hA.g2 _ rfl
                have k1 : wc.drew.cell? ⟨n.G2, 1, none⟩ = some (.string a2) := cellAt hA.g2 _ rfl
                have k2 : wc.drew.cell? ⟨n.G2, 2, none⟩ = some (.string (a3 ++ xx)) := cellAt hA.g2 _ rfl
                have up := update_run (v := .pointer (some ⟨n.T, 0, none⟩)) Yba.underlying56 hA.md KD.new2
                have hC : ∃ W3, (Instr.mapUpdate 56 (.map (some n.D)) (.agg #[.string a1, .string a2, .string (a3 ++ xx)]) (.pointer (some ⟨n.T, 0, none⟩))).run Yba.prog wc.drew = .ok () W3 ∧ St w W3 n a0 a1 a2 a3 a4 0 (eI n a0 0) (eC n a1 a2 a4 0) (eD n a1 a2 a3 0) := ⟨_, up, (hA.turnD _ _).eqD (ent_zero _ _ _ _)⟩
                clear up h3
                obtain ⟨W3, up, hB⟩ := hC
                go_upto_region 14 with fail
                have z1 : wc.drew.cell? ⟨n.S, 7, none⟩ = some (.map (some n.D)) ∧ wc.drew.cell? ⟨n.G2, 0, none⟩ = some (.string a1) ∧ wc.drew.cell? ⟨n.G2, 1, none⟩ = some (.string a2) ∧ wc.drew.cell? ⟨n.G2, 2, none⟩ = some (.string (a3 ++ xx)) := ⟨cellAt hA.sv _ rfl, cellAt hA.g2 _ rfl, cellAt hA.g2 _ rfl, cellAt hA.g2 _ rfl⟩
                have z2 : W3.cell? ⟨n.S, 7, none⟩ = some (.map (some n.D)) ∧ W3.cell? ⟨n.G2, 0, none⟩ = some (.string a1) ∧ W3.cell? ⟨n.G2, 1, none⟩ = some (.string a2) ∧ W3.cell? ⟨n.G2, 2, none⟩ = some (.string (a3 ++ xx)) := ⟨cellAt hB.sv _ rfl, cellAt hB.g2 _ rfl, cellAt hB.g2 _ rfl, cellAt hB.g2 _ rfl⟩
                clear hA s7 k0 k1 k2
                go_region_held3 (fun w' => w'.cell? ⟨n.S, 7, none⟩ = some (.map (some n.D)) ∧ w'.cell? ⟨n.G2, 0, none⟩ = some (.string a1) ∧ w'.cell? ⟨n.G2, 1, none⟩ = some (.string a2) ∧ w'.cell? ⟨n.G2, 2, none⟩ = some (.string (a3 ++ xx))) (first | exact z1 | exact z2) (fail)
                go_wp2
                go_meet
                case rel => exact hB
            case rest =>
              have h4 := hcut
              clear h3 hcut
              as_aux_lemma =>
                go_upto_if 96 with fail
                go_cut [] from 30 (fun wc => St w wc n a0 a1 a2 a3 a4 0 (eI n a0 si) (eC n a1 a2 a4 0) (eD n a1 a2 a3 0))
                case first =>
                  as_aux_lemma =>
                    rcases (show si = 0 ∨ si = 1 ∨ si = 2 by omega) with rfl | rfl | rfl
                    · go_wp2
                      go_meet
                      case rel => exact h4
                    · as_aux_lemma =>
                        have hA := h4
                        have s5 : wc.cell? ⟨n.S, 5, none⟩ = some (.map (some n.I)) := cellAt hA.sv _ rfl
                        have up := update_run (v := .pointer (some ⟨n.T, 0, none⟩)) Yba.underlying54 hA.mi (KI.new1 (tx := ptr n.T) (oth := ptr n.O))
                        have hC : ∃ W3, (Instr.mapUpdate 54 (.map (some n.I)) (.string a0) (.pointer (some ⟨n.T, 0, none⟩))).run Yba.prog wc = .ok () W3 ∧ St w W3 n a0 a1 a2 a3 a4 0 (eI n a0 1) (eC n a1 a2 a4 0) (eD n a1 a2 a3 0) := ⟨_, up, (hA.turnI _ _).eqI (ent_one _ _ _ _)⟩
                        clear up h4 hA
                        obtain ⟨W3, up, hB⟩ := hC
                        go_wp2
                        go_meet
                        case rel => exact hB
                    · as_aux_lemma =>
                        have hA := h4
                        have s5 : wc.cell? ⟨n.S, 5, none⟩ = some (.map (some n.I)) := cellAt hA.sv _ rfl
                        have up := update_run (v := .pointer (some ⟨n.O, 0, none⟩)) Yba.underlying54 hA.mi (KI.new1 (tx := ptr n.T) (oth := ptr n.O))
                        have hC : ∃ W3, (Instr.mapUpdate 54 (.map (some n.I)) (.string a0) (.pointer (some ⟨n.O, 0, none⟩))).run Yba.prog wc = .ok () W3 ∧ St w W3 n a0 a1 a2 a3 a4 0 (eI n a0 2) (eC n a1 a2 a4 0) (eD n a1 a2 a3 0) := ⟨_, up, (hA.turnI _ _).eqI (ent_two _ _ _ _)⟩
                        clear up h4 hA
                        obtain ⟨W3, up, hB⟩ := hC
                        go_wp2
                        go_meet
                        case rel => exact hB
                case rest =>
                  have h5 := hcut
                  clear h4 hcut
                  as_aux_lemma =>
                    go_upto_if 112 with fail
                    go_cut [] from 30 (fun wc => St w wc n a0 a1 a2 a3 a4 0 (eI n a0 si) (eC n a1 a2 a4 sc) (eD n a1 a2 a3 0))
                    case first =>
                      as_aux_lemma =>
                        rcases (show sc = 0 ∨ sc = 1 ∨ sc = 2 by omega) with rfl | rfl | rfl
                        · go_wp2
                          go_meet
                          case rel => exact h5
                        · as_aux_lemma =>
                            have hA := h5.grown (grown_drew wc)
                            have s6 : wc.drew.cell? ⟨n.S, 6, none⟩ = some (.map (some n.C)) := cellAt hA.sv _ rfl
                            have k0 : wc.drew.cell? ⟨n.K, 0, none⟩ = some (.string a1) := cellAt hA.k1 _ rfl
                            have k1 : wc.drew.cell? ⟨n.K, 1, none⟩ = some (.string a2) := cellAt hA.k1 _ rfl
                            have k2 : wc.drew.cell? ⟨n.K, 2, none⟩ = some (.int .u32 a4) := cellAt hA.k1 _ rfl
                            have up := update_run (v := .pointer (some ⟨n.T, 0, none⟩)) Yba.underlying55 hA.mc (KC.new1 (tx := ptr n.T) (oth := ptr n.O))
                            have hC : ∃ W3, (Instr.mapUpdate 55 (.map (some n.C)) (.agg #[.string a1, .string a2, .int .u32 a4]) (.pointer (some ⟨n.T, 0, none⟩))).run Yba.prog wc.drew = .ok () W3 ∧ St w W3 n a0 a1 a2 a3 a4 0 (eI n a0 si) (eC n a1 a2 a4 1) (eD n a1 a2 a3 0) := ⟨_, up, (hA.turnC _ _).eqC (ent_one _ _ _ _)⟩
                            clear up h5
                            obtain ⟨W3, up, hB⟩ := hC
                            go_upto_region 20 with fail
                            have z1 : wc.drew.cell? ⟨n.S, 6, none⟩ = some (.map (some n.C)) ∧ wc.drew.cell? ⟨n.K, 0, none⟩ = some (.string a1) ∧ wc.drew.cell? ⟨n.K, 1, none⟩ = some (.string a2) ∧ wc.drew.cell? ⟨n.K, 2, none⟩ = some (.int .u32 a4) := ⟨cellAt hA.sv _ rfl, cellAt hA.k1 _ rfl, cellAt hA.k1 _ rfl, cellAt hA.k1 _ rfl⟩
                            have z2 : W3.cell? ⟨n.S, 6, none⟩ = some (.map (some n.C)) ∧ W3.cell? ⟨n.K, 0, none⟩ = some (.string a1) ∧ W3.cell? ⟨n.K, 1, none⟩ = some (.string a2) ∧ W3.cell? ⟨n.K, 2, none⟩ = some (.int .u32 a4) := ⟨cellAt hB.sv _ rfl, cellAt hB.k1 _ rfl, cellAt hB.k1 _ rfl, cellAt hB.k1 _ rfl⟩
                            clear hA s6 k0 k1 k2
                            go_region_held3 (fun w' => w'.cell? ⟨n.S, 6, none⟩ = some (.map (some n.C)) ∧ w'.cell? ⟨n.K, 0, none⟩ = some (.string a1) ∧ w'.cell? ⟨n.K, 1, none⟩ = some (.string a2) ∧ w'.cell? ⟨n.K, 2, none⟩ = some (.int .u32 a4)) (first | exact z1 | exact z2) (fail)
                            go_wp2
                            go_meet
                            case rel => exact hB
                        · as_aux_lemma =>
                            have hA := h5.grown (grown_drew wc)
                            have s6 : wc.drew.cell? ⟨n.S, 6, none⟩ = some (.map (some n.C)) := cellAt hA.sv _ rfl
                            have k0 : wc.drew.cell? ⟨n.K, 0, none⟩ = some (.string a1) := cellAt hA.k1 _ rfl
                            have k1 : wc.drew.cell? ⟨n.K, 1, none⟩ = some (.string a2) := cellAt hA.k1 _ rfl
                            have k2 : wc.drew.cell? ⟨n.K, 2, none⟩ = some (.int .u32 a4) := cellAt hA.k1 _ rfl
                            have up := update_run (v := .pointer (some ⟨n.O, 0, none⟩)) Yba.underlying55 hA.mc (KC.new1 (tx := ptr n.T) (oth := ptr n.O))
                            have hC : ∃ W3, (Instr.mapUpdate 55 (.map (some n.C)) (.agg #[.string a1, .string a2, .int .u32 a4]) (.pointer (some ⟨n.O, 0, none⟩))).run Yba.prog wc.drew = .ok () W3 ∧ St w W3 n a0 a1 a2 a3 a4 0 (eI n a0 si) (eC n a1 a2 a4 2) (eD n a1 a2 a3 0) := ⟨_, up, (hA.turnC _ _).eqC (ent_two _ _ _ _)⟩
                            clear up h5
                            obtain ⟨W3, up, hB⟩ := hC
                            go_upto_region 22 with fail
                            have z1 : wc.drew.cell? ⟨n.S, 6, none⟩ = some (.map (some n.C)) ∧ wc.drew.cell? ⟨n.K, 0, none⟩ = some (.string a1) ∧ wc.drew.cell? ⟨n.K, 1, none⟩ = some (.string a2) ∧ wc.drew.cell? ⟨n.K, 2, none⟩ = some (.int .u32 a4) := ⟨cellAt hA.sv _ rfl, cellAt hA.k1 _ rfl, cellAt hA.k1 _ rfl, cellAt hA.k1 _ rfl⟩
                            have z2 : W3.cell? ⟨n.S, 6, none⟩ = some (.map (some n.C)) ∧ W3.cell? ⟨n.K, 0, none⟩ = some (.string a1) ∧ W3.cell? ⟨n.K, 1, none⟩ = some (.string a2) ∧ W3.cell? ⟨n.K, 2, none⟩ = some (.int .u32 a4) := ⟨cellAt hB.sv _ rfl, cellAt hB.k1 _ rfl, cellAt hB.k1 _ rfl, cellAt hB.k1 _ rfl⟩
                            clear hA s6 k0 k1 k2
                            go_region_held3 (fun w' => w'.cell? ⟨n.S, 6, none⟩ = some (.map (some n.C)) ∧ w'.cell? ⟨n.K, 0, none⟩ = some (.string a1) ∧ w'.cell? ⟨n.K, 1, none⟩ = some (.string a2) ∧ w'.cell? ⟨n.K, 2, none⟩ = some (.int .u32 a4)) (first | exact z1 | exact z2) (fail)
                            go_wp2
                            go_meet
                            case rel => exact hB
                    case rest =>
                      have h6 := hcut
                      clear h5 hcut
                      as_aux_lemma =>
                        go_upto_if 128 with fail
                        go_cut [] from 30 (fun wc => St w wc n a0 a1 a2 a3 a4 0 (eI n a0 si) (eC n a1 a2 a4 sc) (eD n a1 a2 a3 sd))
                        case first =>
                          as_aux_lemma =>
                            rcases (show sd = 0 ∨ sd = 1 ∨ sd = 2 by omega) with rfl | rfl | rfl
                            · go_wp2
                              go_meet
                              case rel => exact h6
                            · as_aux_lemma =>
                                have hA := h6.grown (grown_drew wc)
                                have s7 : wc.drew.cell? ⟨n.S, 7, none⟩ = some (.map (some n.D)) := cellAt hA.sv _ rfl
                                have k0 : wc.drew.cell? ⟨n.G, 0, none⟩ = some (.string a1) := cellAt hA.g1 _ rfl
                                have k1 : wc.drew.cell? ⟨n.G, 1, none⟩ = some (.string a2) := cellAt hA.g1 _ rfl
                                have k2 : wc.drew.cell? ⟨n.G, 2, none⟩ = some (.string a3) := cellAt hA.g1 _ rfl
                                have up := update_run (v := .pointer (some ⟨n.T, 0, none⟩)) Yba.underlying56 hA.md (KD.new1 (tx := ptr n.T) (oth := ptr n.O))
                                have hC : ∃ W3, (Instr.mapUpdate 56 (.map (some n.D)) (.agg #[.string a1, .string a2, .string a3]) (.pointer (some ⟨n.T, 0, none⟩))).run Yba.prog wc.drew = .ok () W3 ∧ St w W3 n a0 a1 a2 a3 a4 0 (eI n a0 si) (eC n a1 a2 a4 sc) (eD n a1 a2 a3 1) := ⟨_, up, (hA.turnD _ _).eqD (ent_one _ _ _ _)⟩
                                clear up h6
                                obtain ⟨W3, up, hB⟩ := hC
                                go_upto_region 24 with fail
                                have z1 : wc.drew.cell? ⟨n.S, 7, none⟩ = some (.map (some n.D)) ∧ wc.drew.cell? ⟨n.G, 0, none⟩ = some (.string a1) ∧ wc.drew.cell? ⟨n.G, 1, none⟩ = some (.string a2) ∧ wc.drew.cell? ⟨n.G, 2, none⟩ = some (.string a3) := ⟨cellAt hA.sv _ rfl, cellAt hA.g1 _ rfl, cellAt hA.g1 _ rfl, cellAt hA.g1 _ rfl⟩
                                have z2 : W3.cell? ⟨n.S, 7, none⟩ = some (.map (some n.D)) ∧ W3.cell? ⟨n.G, 0, none⟩ = some (.string a1) ∧ W3.cell? ⟨n.G, 1, none⟩ = some (.string a2) ∧ W3.cell? ⟨n.G, 2, none⟩ = some (.string a3) := ⟨cellAt hB.sv _ rfl, cellAt hB.g1 _ rfl, cellAt hB.g1 _ rfl, cellAt hB.g1 _ rfl⟩
                                clear hA s7 k0 k1 k2
                                go_region_held3 (fun w' => w'.cell? ⟨n.S, 7, none⟩ = some (.map (some n.D)) ∧ w'.cell? ⟨n.G, 0, none⟩ = some (.string a1) ∧ w'.cell? ⟨n.G, 1, none⟩ = some (.string a2) ∧ w'.cell? ⟨n.G, 2, none⟩ = some (.string a3)) (first | exact z1 | exact z2) (fail)
                                go_wp2
                                go_meet
                                case rel => exact hB
                            · as_aux_lemma =>
                                have hA := h6.grown (grown_drew wc)
                                have s7 : wc.drew.cell? ⟨n.S, 7, none⟩ = some (.map (some n.D)) := cellAt hA.sv _ rfl
                                have k0 : wc.drew.cell? ⟨n.G, 0, none⟩ = some (.string a1) := cellAt hA.g1 _ rfl
                                have k1 : wc.drew.cell? ⟨n.G, 1, none⟩ = some (.string a2) := cellAt hA.g1 _ rfl
                                have k2 : wc.drew.cell? ⟨n.G, 2, none⟩ = some (.string a3) := cellAt hA.g1 _ rfl
                                have up := update_run (v := .pointer (some ⟨n.O, 0, none⟩)) Yba.underlying56 hA.md (KD.new1 (tx := ptr n.T) (oth := ptr n.O))
                                have hC : ∃ W3, (Instr.mapUpdate 56 (.map (some n.D)) (.agg #[.string a1, .string a2, .string a3]) (.pointer (some ⟨n.O, 0, none⟩))).run Yba.prog wc.drew = .ok () W3 ∧ St w W3 n a0 a1 a2 a3 a4 0 (eI n a0 si) (eC n a1 a2 a4 sc) (eD n a1 a2 a3 2) := ⟨_, up, (hA.turnD _ _).eqD (ent_two _ _ _ _)⟩
                                clear up h6
                                obtain ⟨W3, up, hB⟩ := hC
                                go_upto_region 26 with fail
                                have z1 : wc.drew.cell? ⟨n.S, 7, none⟩ = some (.map (some n.D)) ∧ wc.drew.cell? ⟨n.G, 0, none⟩ = some (.string a1) ∧ wc.drew.cell? ⟨n.G, 1, none⟩ = some (.string a2) ∧ wc.drew.cell? ⟨n.G, 2, none⟩ = some (.string a3) := ⟨cellAt hA.sv _ rfl, cellAt hA.g1 _ rfl, cellAt hA.g1 _ rfl, cellAt hA.g1 _ rfl⟩
                                have z2 : W3.cell? ⟨n.S, 7, none⟩ = some (.map (some n.D)) ∧ W3.cell? ⟨n.G, 0, none⟩ = some (.string a1) ∧ W3.cell? ⟨n.G, 1, none⟩ = some (.string a2) ∧ W3.cell? ⟨n.G, 2, none⟩ = some (.string a3) := ⟨cellAt hB.sv _ rfl, cellAt hB.g1 _ rfl, cellAt hB.g1 _ rfl, cellAt hB.g1 _ rfl⟩
                                clear hA s7 k0 k1 k2
                                go_region_held3 (fun w' => w'.cell? ⟨n.S, 7, none⟩ = some (.map (some n.D)) ∧ w'.cell? ⟨n.G, 0, none⟩ = some (.string a1) ∧ w'.cell? ⟨n.G, 1, none⟩ = some (.string a2) ∧ w'.cell? ⟨n.G, 2, none⟩ = some (.string a3)) (first | exact z1 | exact z2) (fail)
                                go_wp2
                                go_meet
                                case rel => exact hB
                        case rest =>
                          have h7 := hcut
                          clear h6 hcut
                          as_aux_lemma =>
                            go_wp2_with fail
                            refine (forget_any w _ n a0 a1 a2 a3 a4 si sc sd hsi3 hsc3 hsd3 hTO KI KC KD h7).mono ?_
                            rintro e w5 ⟨rfl, h8⟩
                            clear h7
                            as_aux_lemma =>
                              have s5 : w5.cell? ⟨n.S, 5, none⟩ = some (.map (some n.I)) := cellAt h8.sv _ rfl
                              have lkI := look_behind KI n si hsi3 Yba.underlying54 h8.mi
                              go_upto_region 31 with (first | (go_at_call 7; refine (after_any n _ (by omega) _).mono ?_; rintro e w' ⟨rfl, rfl⟩))
                              clear lkI s5
                              have s6 : w5.cell? ⟨n.S, 6, none⟩ = some (.map (some n.C)) := cellAt h8.sv _ rfl
                              have k0 : w5.cell? ⟨n.K, 0, none⟩ = some (.string a1) := cellAt h8.k1 _ rfl
                              have k1 : w5.cell? ⟨n.K, 1, none⟩ = some (.string a2) := cellAt h8.k1 _ rfl
                              have k2 : w5.cell? ⟨n.K, 2, none⟩ = some (.int .u32 a4) := cellAt h8.k1 _ rfl
                              have lkC := fun k => look_behind KC n sc hsc3 (W := w5.drewN k) Yba.underlying55 h8.mc
                              go_quiet (fail)
                              have h9 := h8.grown (grown_drewN w5 nq)
                              clear h8 s6 k0 k1 k2 lkC
                              generalize w5.drewN nq = w6 at *
                              clear nq
                              as_aux_lemma =>
                                go_upto_region 34 with (first | (go_at_call 7; refine (after_any n _ (by omega) _).mono ?_; rintro e w' ⟨rfl, rfl⟩))
                                have s7 : w6.cell? ⟨n.S, 7, none⟩ = some (.map (some n.D)) := cellAt h9.sv _ rfl
                                have k0 : w6.cell? ⟨n.G, 0, none⟩ = some (.string a1) := cellAt h9.g1 _ rfl
                                have k1 : w6.cell? ⟨n.G, 1, none⟩ = some (.string a2) := cellAt h9.g1 _ rfl
                                have k2 : w6.cell? ⟨n.G, 2, none⟩ = some (.string a3) := cellAt h9.g1 _ rfl
                                have lkD := fun k => look_behind KD n sd hsd3 (W := w6.drewN k) Yba.underlying56 h9.md
                                go_quiet (fail)
                                have h10 := h9.grown (grown_drewN w6 nq)
                                clear h9 s7 k0 k1 k2 lkD
                                generalize w6.drewN nq = w7 at *
                                clear nq
                                as_aux_lemma =>
                                  go_upto_region 37 with (first | (go_at_call 7; refine (after_any n _ (by omega) _).mono ?_; rintro e w' ⟨rfl, rfl⟩))
                                  have s5 : w7.cell? ⟨n.S, 5, none⟩ = some (.map (some n.I)) := cellAt h10.sv _ rfl
                                  have s6 : w7.cell? ⟨n.S, 6, none⟩ = some (.map (some n.C)) := cellAt h10.sv _ rfl
                                  have s7 : w7.cell? ⟨n.S, 7, none⟩ = some (.map (some n.D)) := cellAt h10.sv _ rfl
                                  have k0 : w7.cell? ⟨n.K2, 0, none⟩ = some (.string (a1 ++ xx)) := cellAt h10.k2 _ rfl
                                  have k1 : w7.cell? ⟨n.K2, 1, none⟩ = some (.string a2) := cellAt h10.k2 _ rfl
                                  have k2 : w7.cell? ⟨n.K2, 2, none⟩ = some (.int .u32 a4) := cellAt h10.k2 _ rfl
                                  have g0 : w7.cell? ⟨n.G2, 0, none⟩ = some (.string a1) := cellAt h10.g2 _ rfl
                                  have g1 : w7.cell? ⟨n.G2, 1, none⟩ = some (.string a2) := cellAt h10.g2 _ rfl
                                  have g2 : w7.cell? ⟨n.G2, 2, none⟩ = some (.string (a3 ++ xx)) := cellAt h10.g2 _ rfl
                                  have lkI := fun k => look_two KI n si (W := w7.drewN k) Yba.underlying54 h10.mi
                                  have lkC := fun k => look_two KC n sc (W := w7.drewN k) Yba.underlying55 h10.mc
                                  have lkD := fun k => look_two KD n sd (W := w7.drewN k) Yba.underlying56 h10.md
                                  have q := neq_same
                                  go_quiet (fail)
                                  have h11 := h10.grown (grown_drewN w7 nq)
                                  clear h10 s5 s6 s7 k0 k1 k2 g0 g1 g2 lkI lkC lkD q
                                  generalize w7.drewN nq = w8 at *
                                  clear nq
                                  as_aux_lemma =>
                                    have s5 : w8.cell? ⟨n.S, 5, none⟩ = some (.map (some n.I)) := cellAt h11.sv _ rfl
                                    have s6 : w8.cell? ⟨n.S, 6, none⟩ = some (.map (some n.C)) := cellAt h11.sv _ rfl
                                    have s7 : w8.cell? ⟨n.S, 7, none⟩ = some (.map (some n.D)) := cellAt h11.sv _ rfl
                                    have lnI := fun ty => len_behind (ty := ty) n si Yba.underlying54 h11.mi
                                    have lnC := fun ty => len_behind (ty := ty) n sc Yba.underlying55 h11.mc
                                    have lnD := fun ty => len_behind (ty := ty) n sd Yba.underlying56 h11.md
                                    have m1 := fun r => run_neq_map_nil (P := Yba.prog) w8 54 9 25 r Yba.underlying54
                                    have m2 := fun r => run_neq_map_nil (P := Yba.prog) w8 55 24 25 r Yba.underlying55
                                    have m3 := fun r => run_neq_map_nil (P := Yba.prog) w8 56 71 25 r Yba.underlying56
                                    go_wp2_with (first | (go_at_call 8; refine (want_any _ _).mono ?_; rintro e w' ⟨rfl, rfl⟩))
                                    go_ret
                                    exact ⟨rfl, h11.bel⟩
end Go.Proofs.Ybulkakwy
