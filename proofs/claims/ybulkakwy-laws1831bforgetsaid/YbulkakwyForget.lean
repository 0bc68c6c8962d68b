/-
  (*sip.Server).forget (function 6): its contract over the blocks of the law.
-/
import Derived.Test.YbulkakwySt
import Derived.Deep.DeepCutAuto
import Derived.Deep.RegionHeld3
import Derived.Deep.DrawnRows
namespace Go.Proofs.Ybulkakwy
open Go.RowKit Go.ChangeMaps Go.MuLone
attribute [local go_sem ↓] Go.wp_at_zero Go.wp_at_succ

section
variable {w W : World} {n : Nums} {key call frm tag : ByteArray} {cseq lk : Int} {mI mC mD : Array MapEntry × Nat}
theorem lock_st (h : St w W n key call frm tag cseq 0 mI mC mD) : Calls Yba.prog 12 #[.pointer (some ⟨n.S, 3, none⟩)] W fun e W' => e = .returned (.tuple #[]) ∧ St w W' n key call frm tag cseq 1 mI mC mD :=
  (lock_free muLib ⟨n.S, 3, none⟩ W (cellAt h.sv _ rfl) (frozenAt h.sv)).mono fun _ _ ⟨h1, h2⟩ => ⟨h1, h2 ▸ h.lock 1⟩
theorem unlock_st (h : St w W n key call frm tag cseq 1 mI mC mD) (u : FrameMode) : CallsD Yba.prog 13 #[.pointer (some ⟨n.S, 3, none⟩)] u W fun e u' W' => u' = u ∧ (e = .returned (.tuple #[]) ∧ St w W' n key call frm tag cseq 0 mI mC mD) :=
  (unlock_deferred muLib ⟨n.S, 3, none⟩ u W (cellAt h.sv _ rfl) (frozenAt h.sv)).mono fun _ _ _ ⟨h0, h1, h2⟩ => ⟨h0, h1, h2 ▸ h.lock 0⟩
end

theorem dialog_st {w W : World} {n : Nums} {key call frm tag : ByteArray} {cseq lk : Int} {mI mC mD : Array MapEntry × Nat} (h : St w W n key call frm tag cseq lk mI mC mD) :
    Calls Yba.prog 14 #[.pointer (some ⟨n.T, 0, none⟩)] W fun e W' => e = .returned (.agg #[.string call, .string frm, .string tag]) ∧ St w W' n key call frm tag cseq lk mI mC mD :=
  (dialog_any n.T call frm tag W (cellAt h.tx _ rfl) (cellAt h.tx _ rfl) (cellAt h.tx _ rfl)).mono fun _ _ ⟨h1, h2⟩ => ⟨h1, h2 ▸ (h.grown (World.grownBy_alloc _ _ _)).grown (grown_drew _)⟩

def ptr (b : Nat) : Value := .pointer (some ⟨b, 0, none⟩)

abbrev eI (n : Nums) (key : ByteArray) (s : Nat) : Array MapEntry × Nat := ent (.string (key ++ xx)) (.string key) (ptr n.T) (ptr n.O) s
abbrev eC (n : Nums) (call frm : ByteArray) (cseq : Int) (s : Nat) : Array MapEntry × Nat := ent (.agg #[.string (call ++ xx), .string frm, .int .u32 cseq]) (.agg #[.string call, .string frm, .int .u32 cseq]) (ptr n.T) (ptr n.O) s
abbrev eD (n : Nums) (call frm tag : ByteArray) (s : Nat) : Array MapEntry × Nat := ent (.agg #[.string call, .string frm, .string (tag ++ xx)]) (.agg #[.string call, .string frm, .string tag]) (ptr n.T) (ptr n.O) s
abbrev aI (n : Nums) (key : ByteArray) (s : Nat) : Array MapEntry × Nat := aft (.string (key ++ xx)) (.string key) (ptr n.T) (ptr n.O) s
abbrev aC (n : Nums) (call frm : ByteArray) (cseq : Int) (s : Nat) : Array MapEntry × Nat := aft (.agg #[.string (call ++ xx), .string frm, .int .u32 cseq]) (.agg #[.string call, .string frm, .int .u32 cseq]) (ptr n.T) (ptr n.O) s
abbrev aD (n : Nums) (call frm tag : ByteArray) (s : Nat) : Array MapEntry × Nat := aft (.agg #[.string call, .string frm, .string (tag ++ xx)]) (.agg #[.string call, .string frm, .string tag]) (ptr n.T) (ptr n.O) s

theorem erase_ent {k2 k tx oth : Value} : ((ent k2 k tx oth 1).1.eraseIdxIfInBounds 1, (ent k2 k tx oth 1).2) = aft k2 k tx oth 1 := by simp [ent, aft, Array.eraseIdxIfInBounds]
section
variable {w W : World} {n : Nums} {key call frm tag : ByteArray} {cseq lk : Int} {mI mC mD m : Array MapEntry × Nat}
theorem St.eqI (h : St w W n key call frm tag cseq lk mI mC mD) (e : mI = m) : St w W n key call frm tag cseq lk m mC mD := e ▸ h
theorem St.eqC (h : St w W n key call frm tag cseq lk mI mC mD) (e : mC = m) : St w W n key call frm tag cseq lk mI m mD := e ▸ h
theorem St.eqD (h : St w W n key call frm tag cseq lk mI mC mD) (e : mD = m) : St w W n key call frm tag cseq lk mI mC m := e ▸ h
end
theorem ent_aft {k2 k tx oth : Value} {s : Nat} (h : ¬ s = 1) : ent k2 k tx oth s = aft k2 k tx oth s := by simp [ent, aft, h]

set_option maxHeartbeats 4000000 in
set_option maxRecDepth 1000000 in
theorem forget_any (w W : World) (n : Nums) (key call frm tag : ByteArray) (cseq : Int) (si sc sd : Nat) (hsi : si < 3) (hsc : sc < 3) (hsd : sd < 3) (hTO : n.T ≠ n.O)
    (KI : Keys 9 (.string key) (.string (key ++ xx)))
    (KC : Keys 24 (.agg #[.string call, .string frm, .int .u32 cseq]) (.agg #[.string (call ++ xx), .string frm, .int .u32 cseq]))
    (KD : Keys 71 (.agg #[.string call, .string frm, .string tag]) (.agg #[.string call, .string frm, .string (tag ++ xx)]))
    (h : St w W n key call frm tag cseq 0 (eI n key si) (eC n call frm cseq sc) (eD n call frm tag sd)) :
    Calls Yba.prog 6 #[.pointer (some ⟨n.S, 0, none⟩), .pointer (some ⟨n.T, 0, none⟩)] W fun e W' => e = .returned (.tuple #[]) ∧
      St w W' n key call frm tag cseq 0 (aI n key si) (aC n call frm cseq sc) (aD n call frm tag sd) := by
  go_enter_defers Yba.func6, Yba.ntmps6
  go_wp2_with fail
  refine (lock_st h).mono ?_
  rintro e w1 ⟨rfl, h1⟩
  clear h
  go_upto_region 2 with fail
  go_cut [21] from 4 (fun s21 wc => s21 = .bool (decide (si = 1)) ∧ St w wc n key call frm tag cseq 1 (eI n key si) (eC n call frm cseq sc) (eD n call frm tag sd))
  case first =>
    have s5 : w1.cell? ⟨n.S, 5, none⟩ = some (.map (some n.I)) := cellAt h1.sv _ rfl
    have t5 : w1.cell? ⟨n.T, 5, none⟩ = some (.string key) := cellAt h1.tx _ rfl
    have q1 := eql_nil_left
    have q2 := eql_same
    have q3 := fun k => (h1.grown (grown_drewN w1 k)).eql_OT hTO
    have hm := fun k => (h1.grown (grown_drewN w1 k)).mi
    have HS := fun k => h1.grown (grown_drewN w1 k)
    clear h1
    rcases (show si = 0 ∨ si = 1 ∨ si = 2 by omega) with rfl | rfl | rfl
    · have lk : ∀ k, (Instr.lookup 54 (.map (some n.I)) (.string key) false).run Yba.prog (w1.drewN k) = .ok (.pointer none) (w1.drewN k) := fun k => lookup_run Yba.underlying54 (hm k) KI.new1 false
      clear hm
      go_quiet (fail)
      go_wp2_with fail
      go_meet
      case rel => exact ⟨rfl, HS nq⟩
    · have lk : ∀ k, (Instr.lookup 54 (.map (some n.I)) (.string key) false).run Yba.prog (w1.drewN k) = .ok (.pointer (some ⟨n.T, 0, none⟩)) (w1.drewN k) := fun k => lookup_run Yba.underlying54 (hm k) KI.has1 false
      clear hm
      go_quiet (fail)
      go_wp2_with fail
      go_meet
      case rel => exact ⟨rfl, HS nq⟩
    · have lk : ∀ k, (Instr.lookup 54 (.map (some n.I)) (.string key) false).run Yba.prog (w1.drewN k) = .ok (.pointer (some ⟨n.O, 0, none⟩)) (w1.drewN k) := fun k => lookup_run Yba.underlying54 (hm k) KI.has2 false
      clear hm
      go_quiet (fail)
      go_wp2_with fail
      go_meet
      case rel => exact ⟨rfl, HS nq⟩
  case rest =>
    obtain ⟨rfl, h2⟩ := hcut
    clear h1
    go_upto_if 21 with fail
    go_cut [] from 4 (fun wc => St w wc n key call frm tag cseq 1 (aI n key si) (eC n call frm cseq sc) (eD n call frm tag sd))
    case first =>
      by_cases e1 : si = 1
      · subst e1
        have s5 : wc.drew.cell? ⟨n.S, 5, none⟩ = some (.map (some n.I)) := cellAt h2.sv _ rfl
        have t5 : wc.drew.cell? ⟨n.T, 5, none⟩ = some (.string key) := cellAt h2.tx _ rfl
        have h3 := h2.grown (grown_drew wc)
        have dl := fun ty => delete_run (ty := ty) Yba.underlying54 h3.mi KI.has1
        have h4 : St w (setBlock wc.drew n.I (.map ((eI n key 1).1.eraseIdxIfInBounds 1) (eI n key 1).2)) n key call frm tag cseq 1 (aI n key 1) (eC n call frm cseq sc) (eD n call frm tag sd) := (h3.turnI _ _).eqI erase_ent
        clear h2 h3
        generalize setBlock wc.drew n.I (.map ((eI n key 1).1.eraseIdxIfInBounds 1) (eI n key 1).2) = W3 at *
        go_upto_region 3 with fail
        refine region_tail 8 mixed (by kernel_rfl) ?_
        simp only [List.take_succ_cons, List.take_zero, List.drop_succ_cons, List.drop_zero]
        repeat still_step
        refine wpStill_nil ?_
        go_wp2
        go_meet
        case rel => exact h4
      · have e2 : decide (si = 1) = false := by simp [e1]
        go_wp2
        go_meet
        case rel => exact h2.eqI (ent_aft e1)
    case rest =>
      have h3 := hcut
      clear h2 hcut
      go_upto_region 4 with fail
      go_cut [40] from 4 (fun s40 wc => s40 = .bool (decide (sc = 1)) ∧ St w wc n key call frm tag cseq 1 (aI n key si) (eC n call frm cseq sc) (eD n call frm tag sd))
      case first =>
        have s6 : wc.cell? ⟨n.S, 6, none⟩ = some (.map (some n.C)) := cellAt h3.sv _ rfl
        have t6 : wc.cell? ⟨n.T, 6, none⟩ = some (.string call) := cellAt h3.tx _ rfl
        have t7 : wc.cell? ⟨n.T, 7, none⟩ = some (.string frm) := cellAt h3.tx _ rfl
        have t8 : wc.cell? ⟨n.T, 8, none⟩ = some (.int .u32 cseq) := cellAt h3.tx _ rfl
        have q1 := eql_nil_left
        have q2 := eql_same
        have q3 := fun k => (h3.grown (grown_drewN wc k)).eql_OT hTO
        have hm := fun k => (h3.grown (grown_drewN wc k)).mc
        have HS := fun k => h3.grown (grown_drewN wc k)
        clear h3
        rcases (show sc = 0 ∨ sc = 1 ∨ sc = 2 by omega) with rfl | rfl | rfl
        · have lk : ∀ k, (Instr.lookup 55 (.map (some n.C)) (.agg #[.string call, .string frm, .int .u32 cseq]) false).run Yba.prog (wc.drewN k) = .ok (.pointer none) (wc.drewN k) := fun k => lookup_run Yba.underlying55 (hm k) KC.new1 false
          clear hm
          go_quiet (fail)
          go_wp2_with fail
          go_meet
          case rel => exact ⟨rfl, HS nq⟩
        · have lk : ∀ k, (Instr.lookup 55 (.map (some n.C)) (.agg #[.string call, .string frm, .int .u32 cseq]) false).run Yba.prog (wc.drewN k) = .ok (.pointer (some ⟨n.T, 0, none⟩)) (wc.drewN k) := fun k => lookup_run Yba.underlying55 (hm k) KC.has1 false
          clear hm
          go_quiet (fail)
          go_wp2_with fail
          go_meet
          case rel => exact ⟨rfl, HS nq⟩
        · have lk : ∀ k, (Instr.lookup 55 (.map (some n.C)) (.agg #[.string call, .string frm, .int .u32 cseq]) false).run Yba.prog (wc.drewN k) = .ok (.pointer (some ⟨n.O, 0, none⟩)) (wc.drewN k) := fun k => lookup_run Yba.underlying55 (hm k) KC.has2 false
          clear hm
          go_quiet (fail)
          go_wp2_with fail
          go_meet
          case rel => exact ⟨rfl, HS nq⟩
      case rest =>
        obtain ⟨rfl, h4⟩ := hcut
        clear h3
        go_upto_if 40 with fail
        go_cut [] from 4 (fun wc => St w wc n key call frm tag cseq 1 (aI n key si) (aC n call frm cseq sc) (eD n call frm tag sd))
        case first =>
          by_cases e1 : sc = 1
          · subst e1
            have s6 : wc.drew.cell? ⟨n.S, 6, none⟩ = some (.map (some n.C)) := cellAt h4.sv _ rfl
            have t6 : wc.drew.cell? ⟨n.T, 6, none⟩ = some (.string call) := cellAt h4.tx _ rfl
            have t7 : wc.drew.cell? ⟨n.T, 7, none⟩ = some (.string frm) := cellAt h4.tx _ rfl
            have t8 : wc.drew.cell? ⟨n.T, 8, none⟩ = some (.int .u32 cseq) := cellAt h4.tx _ rfl
            have h5 := h4.grown (grown_drew wc)
            have dl := fun ty => delete_run (ty := ty) Yba.underlying55 h5.mc KC.has1
            have h6 : St w (setBlock wc.drew n.C (.map ((eC n call frm cseq 1).1.eraseIdxIfInBounds 1) (eC n call frm cseq 1).2)) n key call frm tag cseq 1 (aI n key si) (aC n call frm cseq 1) (eD n call frm tag sd) := (h5.turnC _ _).eqC erase_ent
            clear h4 h5
            generalize setBlock wc.drew n.C (.map ((eC n call frm cseq 1).1.eraseIdxIfInBounds 1) (eC n call frm cseq 1).2) = W3 at *
            go_upto_region 5 with fail
            refine region_tail 8 mixed (by kernel_rfl) ?_
            simp only [List.take_succ_cons, List.take_zero, List.drop_succ_cons, List.drop_zero]
            repeat still_step
            refine wpStill_nil ?_
            go_wp2
            go_meet
            case rel => exact h6
          · have e2 : decide (sc = 1) = false := by simp [e1]
            go_wp2
            go_meet
            case rel => exact h4.eqC (ent_aft e1)
        case rest =>
          have h5 := hcut
          clear h4 hcut
          go_upto_region 6 with fail
          go_cut [57] from 4 (fun s57 wc => s57 = .bool (decide (sd = 1)) ∧ St w wc n key call frm tag cseq 1 (aI n key si) (aC n call frm cseq sc) (eD n call frm tag sd))
          case first =>
            rcases (show sd = 0 ∨ sd = 1 ∨ sd = 2 by omega) with rfl | rfl | rfl
            · have mk : ∀ w', St w w' n key call frm tag cseq 1 (aI n key si) (aC n call frm cseq sc) (eD n call frm tag 0) → (w'.cell? ⟨n.S, 7, none⟩ = some (.map (some n.D)) ∧ (Instr.lookup 56 (.map (some n.D)) (.agg #[.string call, .string frm, .string tag]) false).run Yba.prog w' = .ok (.pointer none) w' ∧
                  (binOp .eql 25 (.pointer none) (.pointer (some ⟨n.T, 0, none⟩))).run Yba.prog w' = .ok (.bool false) w') := fun w' h => ⟨cellAt h.sv _ rfl, lookup_run Yba.underlying56 h.md KD.new1 false, eql_nil_left _ _⟩
              have h6 := h5.grown (grown_drew wc)
              go_region_held3 (fun w' => w'.cell? ⟨n.S, 7, none⟩ = some (.map (some n.D)) ∧ (Instr.lookup 56 (.map (some n.D)) (.agg #[.string call, .string frm, .string tag]) false).run Yba.prog w' = .ok (.pointer none) w' ∧
                  (binOp .eql 25 (.pointer none) (.pointer (some ⟨n.T, 0, none⟩))).run Yba.prog w' = .ok (.bool false) w')
                (exact mk _ (by assumption))
                (first | (go_at_call 14; refine (dialog_st h6).mono ?_; rintro e w' ⟨rfl, hst⟩))
              go_wp2_with fail
              go_meet
              case rel => exact ⟨rfl, by assumption⟩
            · have mk : ∀ w', St w w' n key call frm tag cseq 1 (aI n key si) (aC n call frm cseq sc) (eD n call frm tag 1) → (w'.cell? ⟨n.S, 7, none⟩ = some (.map (some n.D)) ∧ (Instr.lookup 56 (.map (some n.D)) (.agg #[.string call, .string frm, .string tag]) false).run Yba.prog w' = .ok (.pointer (some ⟨n.T, 0, none⟩)) w' ∧
                  (binOp .eql 25 (.pointer (some ⟨n.T, 0, none⟩)) (.pointer (some ⟨n.T, 0, none⟩))).run Yba.prog w' = .ok (.bool true) w') := fun w' h => ⟨cellAt h.sv _ rfl, lookup_run Yba.underlying56 h.md KD.has1 false, eql_same _ _⟩
              have h6 := h5.grown (grown_drew wc)
              go_region_held3 (fun w' => w'.cell? ⟨n.S, 7, none⟩ = some (.map (some n.D)) ∧ (Instr.lookup 56 (.map (some n.D)) (.agg #[.string call, .string frm, .string tag]) false).run Yba.prog w' = .ok (.pointer (some ⟨n.T, 0, none⟩)) w' ∧
                  (binOp .eql 25 (.pointer (some ⟨n.T, 0, none⟩)) (.pointer (some ⟨n.T, 0, none⟩))).run Yba.prog w' = .ok (.bool true) w')
                (exact mk _ (by assumption))
                (first | (go_at_call 14; refine (dialog_st h6).mono ?_; rintro e w' ⟨rfl, hst⟩))
              go_wp2_with fail
              go_meet
              case rel => exact ⟨rfl, by assumption⟩
            · have mk : ∀ w', St w w' n key call frm tag cseq 1 (aI n key si) (aC n call frm cseq sc) (eD n call frm tag 2) → (w'.cell? ⟨n.S, 7, none⟩ = some (.map (some n.D)) ∧ (Instr.lookup 56 (.map (some n.D)) (.agg #[.string call, .string frm, .string tag]) false).run Yba.prog w' = .ok (.pointer (some ⟨n.O, 0, none⟩)) w' ∧
                  (binOp .eql 25 (.pointer (some ⟨n.O, 0, none⟩)) (.pointer (some ⟨n.T, 0, none⟩))).run Yba.prog w' = .ok (.bool false) w') := fun w' h => ⟨cellAt h.sv _ rfl, lookup_run Yba.underlying56 h.md KD.has2 false, h.eql_OT hTO⟩
              have h6 := h5.grown (grown_drew wc)
              go_region_held3 (fun w' => w'.cell? ⟨n.S, 7, none⟩ = some (.map (some n.D)) ∧ (Instr.lookup 56 (.map (some n.D)) (.agg #[.string call, .string frm, .string tag]) false).run Yba.prog w' = .ok (.pointer (some ⟨n.O, 0, none⟩)) w' ∧
                  (binOp .eql 25 (.pointer (some ⟨n.O, 0, none⟩)) (.pointer (some ⟨n.T, 0, none⟩))).run Yba.prog w' = .ok (.bool false) w')
                (exact mk _ (by assumption))
                (first | (go_at_call 14; refine (dialog_st h6).mono ?_; rintro e w' ⟨rfl, hst⟩))
              go_wp2_with fail
              go_meet
              case rel => exact ⟨rfl, by assumption⟩
          case rest =>
            obtain ⟨rfl, h6⟩ := hcut
            clear h5
            go_upto_if 57 with fail
            by_cases e1 : sd = 1
            · subst e1
              have h7 := h6.grown (grown_drew wc)
              have s7 : wc.drew.cell? ⟨n.S, 7, none⟩ = some (.map (some n.D)) := cellAt h7.sv _ rfl
              go_upto_region 7 with fail
              refine wp_region_noPanic ?_
              go_region_with (go_at_call 14; refine (dialog_st h7).mono ?_; rintro e w' ⟨rfl, hst⟩; have s7' : w'.cell? ⟨n.S, 7, none⟩ = some (.map (some n.D)) := cellAt hst.sv _ rfl; have dl := fun ty => delete_run (ty := ty) Yba.underlying56 hst.md KD.has1)
              all_goals refine NoPanic.normal ?_
              all_goals go_wp2_with fail
              all_goals
                refine leaves_cons (f := 13) (args := #[.pointer (some ⟨n.S, 3, none⟩)]) (by simp) (by simp [go_sem]) ?_
                refine (unlock_st ((hst.turnD _ _).eqD erase_ent) .returning).mono ?_
                rintro e u' w'' ⟨rfl, rfl, h9⟩
                exact ⟨_, results_none rfl _ _ _, rfl, h9⟩
            · have e2 : decide (sd = 1) = false := by simp [e1]
              go_wp2
              refine leaves_cons (f := 13) (args := #[.pointer (some ⟨n.S, 3, none⟩)]) (by simp) (by simp [go_sem]) ?_
              refine (unlock_st (h6.eqD (ent_aft e1)) .returning).mono ?_
              rintro e u' w'' ⟨rfl, rfl, h9⟩
              exact ⟨_, results_none rfl _ _ _, rfl, h9⟩
end Go.Proofs.Ybulkakwy
