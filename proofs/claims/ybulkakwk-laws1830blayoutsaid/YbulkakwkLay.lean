/-
  (*tree[int]).lay (function 6): its contract.
-/
import Derived.Test.YbulkakwkHeld
import Derived.Deep.DeepCutAuto
import Derived.Deep.RegionHeld3
import Derived.Deep.DrawnRows
namespace Go.Proofs.Ybulkakwk
open Go.RowKit
set_option linter.unusedVariables false

/-- 'append' within the capacity, as one step of a region that draws its order. -/
theorem step_append_fits {P : Program} {ops : Array Oper} {o : Oper} {a : Act} {w : World} {K : Act → World → Prop} {Q : Exit → Act → World → Prop} {E : Prop} (hgd : o.guard = none) (s x : Operand) (t : TypeId)
    (hop : o.op = Op.call { callee := Callee.builtin Builtin.append, args := #[s, x], argTypes := #[t, t] })
    (base : Nat) (e : TypeId) (i : TypeInfo) (size : Nat) (h1 : P.underlying t = some (.slice e)) (h2 : P.info? e = some i) (h4 : i.size = size)
    (g k cap : Nat) (xs : List Value) (hs : a.eval s = .slice (some ⟨g, 0, none⟩) k cap) (hown : w.ownsRow base e size (.slice (some ⟨g, 0, none⟩) k cap) k xs) (ad : Addr) (m c : Nat) (news : List Value) (hx : a.eval x = .slice (some ad) m c) (hn : news.length = m * size)
    (hc : ∀ j u, news[j]? = some u → w.cell? (ad.add j) = some u) (h1c : ∀ u ∈ news, u.oneCell' = true) (b1 : k + m ≤ cap)
    (hK : ∀ w', w'.ownsRow base e size (.slice (some ⟨g, 0, none⟩) (k + m) cap) (k + m) (xs ++ news) → w.grownBy w' (some g) → K (a.put o.dst (.slice (some ⟨g, 0, none⟩) (k + m) cap)) w') :
    if Region.wanted o (yielded ops a.tmps) = true then Oper.wp P o a w K Q else E := by
  have hw : Region.wanted o (yielded ops a.tmps) = true := by simp [Region.wanted, hgd]
  rw [if_pos hw]
  obtain ⟨w', hrun, r1, r2⟩ := run_append_fits (P := P) w base t o.type e i size h1 h2 h4 g k cap xs hown ad m c news hn hc h1c b1
  unfold Oper.wp
  simp [execOp, hop, resolve, invoke, builtin, hs, hx, hrun, Result.andThen]
  exact hK w' r1 r2

theorem list_new (w : World) (L : List Value) (t : TypeId) : ∀ (j : Nat) (u : Value), L[j]? = some u → (w.alloc (.cells L.toArray t)).cell? ((⟨w.heap.size, 0, none⟩ : Addr).add j) = some u := by
  intro j u h
  rw [Addr.add_lit, Nat.zero_add, cell_of_row _ _ j L.toArray t (0, 0) (heap_alloc_new _ _)]
  simpa using h

theorem kid_one (v : Value) (hv : v.oneCell' = true) (a s l : Int) : ∀ u ∈ [Value.pointer none, v, .int .i64 a, .int .i64 0, .int .i64 s, .int .i64 l], u.oneCell' = true := by
  intro u hu
  simp at hu
  rcases hu with rfl | rfl | rfl | rfl | rfl | rfl <;> first | rfl | exact hv

theorem nodup_pop {E b : Nat} {G S : List Nat} (h : (E :: (G ++ (S ++ [b]))).Nodup) : (E :: (G ++ S)).Nodup ∧ b ∉ E :: (G ++ S) := by
  have e : E :: (G ++ (S ++ [b])) = (E :: (G ++ S)) ++ b :: [] := by simp
  rw [e, (List.perm_middle (a := b) (l₁ := E :: (G ++ S)) (l₂ := [])).nodup_iff] at h
  simp only [List.append_nil] at h
  exact ⟨(List.nodup_cons.1 h).2, (List.nodup_cons.1 h).1⟩

/-- Every block that these hold is there. -/
theorem Base.fresh {c : Cst} {wr : World} {G S : List Nat} {sa : Option Addr} {scap : Nat} {vout : Value} (h : Base c wr G S sa scap vout) {b : Nat} (hb : b ∈ c.E :: (G ++ S)) : b < wr.heap.size := by
  simp only [List.mem_cons, List.mem_append] at hb
  rcases hb with rfl | hb | hb
  · exact (h.es.lt c.E rfl).2
  · obtain ⟨j, hj⟩ := List.mem_iff_getElem?.1 hb
    exact ((h.dn j b hj).lt b rfl).2
  · exact ((h.sl b hb).lt b rfl).2

/-- The last spare leaf is taken. -/
theorem Base.pop {c : Cst} {wr : World} {G S : List Nat} {b R scap : Nat} {vout : Value} (h : Base c wr G (S ++ [b]) (some ⟨R, 0, none⟩) scap vout) :
    Base c (wr.setCell ⟨c.T, 11, none⟩ (.slice (some ⟨R, 0, none⟩) S.length scap)) G S (some ⟨R, 0, none⟩) scap vout := by
  have hnd := nodup_pop h.nd
  refine h.spare ?_ (fun x hx => h.sl x (by simp [hx])) hnd.1
  have hsp := h.sp
  have hR := (own_block hsp (k := R) rfl)
  obtain ⟨cur0, hcur0⟩ := hR
  have hne : R ≠ c.T := fun e => by
    have h1 := h.tb
    rw [← e, hcur0] at h1
    simp at h1
  obtain ⟨h1, h2⟩ := hsp
  refine ⟨by simp, ?_⟩
  rcases h2 with ⟨h2, _⟩ | ⟨g', cap', cur, hv, hg', hh, r1, r2, r3, r4⟩
  · cases h2
  · simp only [Value.slice.injEq, Option.some.injEq, Addr.mk.injEq, and_true] at hv
    obtain ⟨rfl, _, rfl⟩ := hv
    refine .inr ⟨R, scap, cur, rfl, hg', by rw [heap_setCell_other wr ⟨c.T, 11, none⟩ R _ hne]; exact hh, by simp at r1; omega, r2, r3, ?_⟩
    have r5 := congrArg (List.take S.length) r4
    simp at r5 ⊢
    rw [List.take_take] at r5
    simpa using r5

theorem lay_step {c : Cst} {w wc w5 : World} {G S : List Nat} {sa : Option Addr} {scap g m k np : Nat} {vout : Value} (hb : Base c wc G S sa scap vout) (hc : Cur c wc G S g m) (hbel : Below c.B w wc) (hat : c.p + k = G.length * 32 + m) (hnp : m + np ≤ 32)
    (ho : w5.ownsRow c.B 37 4 (.slice (some ⟨g, 0, none⟩) (m + np) 32) (m + np) (ecells c.W (G.length * 32) m ++ ecells c.W (c.p + k) np)) (hg : wc.drew.grownBy w5 (some g)) :
    Base c w5 G S sa scap vout ∧ Cur c w5 G S g (m + np) ∧ Below c.B w w5 := by
  have hd : wc.grownBy wc.drew none := ⟨rfl, rfl, rfl, Nat.le_refl _, fun _ _ _ => rfl⟩
  have hb1 := hb.grown hd
  have hr := hc.row.drew
  refine ⟨hb1.beside hr hc.ne hg, ⟨?_, hc.ne, hnp⟩, (hbel.drew).grown hg hb.sz (fun k hk => by cases hk; exact (hc.row.lt g rfl).1)⟩
  rw [hat] at ho
  rw [ecells_add]
  exact ho

def lenOf : Value → Nat
  | .slice _ n _ => n
  | _ => 0

/-- What holds at the head of lay's loop. -/
structure LayI (c : Cst) (w wr : World) (S : List Nat) (s1 s2 : Value) (k m : Nat) (G S' : List Nat) (sa : Option Addr) (scap g : Nat) : Prop where
  l : s1 = .slice (some ⟨g, 0, none⟩) m 32
  base : Base c wr G S' sa scap s2
  cur : Cur c wr G S' g m
  at' : c.p + k = G.length * 32 + m
  zero : k = 0 → G = []
  pos : 0 < k → 0 < m
  spare : S'.length = S.length - G.length
  bel : Below c.B w wr

set_option maxHeartbeats 1000000 in
set_option maxRecDepth 1000000 in
theorem lay_any (c : Cst) (w : World) (S : List Nat) (sa : Option Addr) (scap g0 : Nat) (vout : Value) (hb : Base c w [] S sa scap vout) (hc : Cur c w [] S g0 c.p) (hp : c.p ≤ 32) (hn : c.n ≤ 1024) (hW : c.W.length = c.p + c.n) (hb0 : c.b0 ≤ 1) (hS : S.length ≤ 2) (hB : c.B ≤ w.heap.size) :
    Calls Yba.prog 6 #[.pointer (some ⟨c.T, 0, none⟩), .slice (some ⟨g0, 0, none⟩) c.p 32, vout, .slice (some ⟨c.E, 0, none⟩) c.n c.n] w fun e w' => ∃ (G S' : List Nat) (sa' : Option Addr) (scap' g m : Nat) (v' : Value),
      e = .returned (.tuple #[.slice (some ⟨g, 0, none⟩) m 32, v']) ∧ Base c w' G S' sa' scap' v' ∧ Cur c w' G S' g m ∧ c.p + c.n = G.length * 32 + m ∧ (c.n = 0 → G = []) ∧ (0 < c.n → 0 < m) ∧ S'.length = S.length - G.length ∧ Below c.B w w' := by
  obtain ⟨i28, hi28, hz28, hs28, hb28⟩ := info_parts Yba.info28
  obtain ⟨i37, hi37, hz37, hs37, hb37⟩ := info_parts Yba.info37
  go_enter Yba.func6, Yba.ntmps6
  go_wp2
  go_loopw [1, 2, 3] (fun s1 s2 s3 wr => ∃ (k o m : Nat) (G S' : List Nat) (sa' : Option Addr) (scap' g : Nat), s3 = .slice (some ⟨c.E, o, none⟩) (c.n - k) (c.n - k) ∧ k ≤ c.n ∧ (k < c.n → o = k * 4) ∧ LayI c w wr S s1 s2 k m G S' sa' scap' g)
    (fun _ _ s3 _ => lenOf s3)
  case atStart => exact ⟨0, 0, c.p, [], S, sa, scap, g0, rfl, by omega, fun _ => rfl, rfl, hb, hc, by simp, fun _ => rfl, fun h => by omega, by simp, Below.refl _ _⟩
  case round =>
    obtain ⟨k, o, m, G, S', sa', scap', g, rfl, hk, ho, hI⟩ := hrel
    obtain ⟨rfl, hba, hcu, hat, hz, hpos, hsp, hbel⟩ := hI
    clear hb hc
    by_cases hlt : k < c.n
    · have ho' := ho hlt
      subst ho'
      have hm32 := hcu.le
      go_upto_if 16 with fail
      go_cut [1, 2] from 11 to 38 (fun s1 s2 wc => ∃ (m : Nat) (G S' : List Nat) (sa' : Option Addr) (scap' g : Nat), m < 32 ∧ c.p + k = G.length * 32 + m ∧ S'.length = S.length - G.length ∧ s1 = .slice (some ⟨g, 0, none⟩) m 32 ∧ Base c wc G S' sa' scap' s2 ∧ Cur c wc G S' g m ∧ Below c.B w wc)
      case first =>
        by_cases hm : m = 32
        · subst hm
          obtain ⟨a, ha⟩ : ∃ a, a = G.length * 32 := ⟨_, rfl⟩
          have HA : Hid (a = G.length * 32) := ha
          have hGl : G.length ≤ 40 := by omega
          have haW : a + 32 ≤ c.W.length := by omega
          have hrow : wr.ownsRow c.B 37 4 (.slice (some ⟨g, 0, none⟩) 32 32) 32 (ecells c.W a 32) := by rw [ha]; exact hcu.row
          have hT8 : wr.cell? ⟨c.T, 8, none⟩ = some (.bool c.lst) := by rw [cell_of_row wr _ 8 _ 35 (0, 0) hba.tb]; rfl
          have hTlt := hba.tlt
          clear ha
          go_wp2_with fail
          refine (leafChild_any c.W c.lst c.T g c.B a 32 32 wr (by omega) (by omega) haW (by omega) hT8 hTlt hrow).mono ?_
          rintro e w1 ⟨rfl, hg1⟩
          have hb1 := hba.grown hg1
          have hr1 : w1.ownsRow c.B 37 4 (.slice (some ⟨g, 0, none⟩) 32 32) 32 (ecells c.W a 32) := own_keep hrow hg1 (fun _ _ => by simp)
          have hbel1 := hbel.grown hg1 (by have := hba.sz; omega) (fun k h => by cases h)
          clear hg1 hrow hT8
          go_wp2_with (at_builtin; refine wpList_append_own _ rfl _ _ 38 rfl c.B 28 i28 _ 6 64 Yba.underlying38 hi28 hz28 hs28 hb28 rfl (by decide) _ _ _ rfl (hb1.ot.alloc _) ⟨w1.heap.size, 0, none⟩ 1 1 [.pointer none, .slice (some ⟨g, 0, none⟩) 32 32, .int .i64 a, .int .i64 0, .int .i64 (sumL (wsl c.W a 32)), .int .i64 (lowV c.lst (wsl c.W a 32))] rfl rfl ?c1 ?c2 ?c3 ?c4 ?c5 ?_)
          case c1 => exact list_new _ _ _
          case c2 => exact kid_one _ rfl _ _ _
          case c3 => unfold maxLen; omega
          case c4 => omega
          case c5 => have := hb1.sz; simp; omega
          intro v2 w2 ho2 hg2 _
          have hb2 : Base c w2 (G ++ [g]) S' sa' scap' v2 := (hb1.grown (World.grownBy_alloc _ _ _)).push (by rw [HA.out] at hr1; exact hr1.alloc _) hcu.ne (by rw [HA.out] at ho2; simpa [List.append_assoc, chd] using ho2) hg2
          have hbel2 : Below c.B w w2 := (hbel1.alloc (by have := hb1.sz; omega) _).grown hg2 (by have := hb1.sz; simp; omega) (fun k hk => (hb1.ot.lt k hk).1)
          clear ho2 hg2 hr1 hb1 hbel1 hbel hcu hba
          rcases (show S' = [] ∨ ∃ S2 b, S' = S2 ++ [b] from by simpa using List.eq_nil_or_concat S') with rfl | ⟨S2, b, rfl⟩
          · have h11 : w2.cell? ⟨c.T, 11, none⟩ = some (.slice sa' 0 scap') := by rw [cell_of_row w2 _ 11 _ 35 (0, 0) hb2.tb]; rfl
            go_wp2_with fail
            refine (newLeaf_new c.T scap' sa' w2 h11 c.B hb2.sz).mono ?_
            rintro e w3 ⟨rfl, ho3, hg3⟩
            have hb3 := hb2.grown hg3
            have hbel3 := hbel2.grown hg3 hb2.sz (fun k h => by cases h)
            have hne3 : w2.heap.size ∉ c.E :: ((G ++ [g]) ++ []) := fun h => by have := hb2.fresh h; omega
            go_wp2
            go_meet
            case rel => exact ⟨0, G ++ [g], [], sa', scap', w2.heap.size, by omega, by simp; omega, by simp at hsp ⊢; omega, rfl, hb3, ⟨ho3, hne3, by omega⟩, hbel3⟩
          · obtain ⟨R, hR, hRs⟩ : ∃ R, sa' = some ⟨R, 0, none⟩ ∧ S2.length + 1 ≤ scap' := by
              rcases hb2.sp.2 with ⟨h1, h2⟩ | ⟨R, cap', cur, hv, hg', hh, r1, r2, r3, r4⟩
              · simp at h2
              · simp only [Value.slice.injEq] at hv
                exact ⟨R, hv.1, by have := hv.2.2; simp at r1; omega⟩
            subst hR
            have h11 : w2.cell? ⟨c.T, 11, none⟩ = some (.slice (some ⟨R, 0, none⟩) (S2.length + 1) scap') := by rw [cell_of_row w2 _ 11 _ 35 (0, 0) hb2.tb]; simp [treec]
            have hfz : w2.frozen? ⟨c.T, 11, none⟩ = false := frozen_of_row w2 _ 11 _ 35 hb2.tb
            have hvb : w2.cell? ⟨R, S2.length, none⟩ = some (leafV b) := by rw [hb2.sp.cellAt S2.length (by simp)]; simp
            have hS2 : S2.length ≤ 2 := by simp at hsp; omega
            go_wp2_with fail
            refine (newLeaf_spare c.T R S2.length scap' (leafV b) w2 h11 hfz hvb hRs (by omega) rfl).mono ?_
            rintro e w3 ⟨rfl, hw3⟩
            have hp3 := hb2.pop
            have hb3 : Base c w3 (G ++ [g]) S2 (some ⟨R, 0, none⟩) scap' v2 := by rw [hw3]; exact hp3
            have hbel3 : Below c.B w w3 := by rw [hw3]; exact hbel2.setCell hb2.lo _
            have ho3 : w3.ownsRow c.B 37 4 (leafV b) 0 [] := by
              have h1 := hb2.sl b (by simp)
              rw [hw3]
              refine own_keep h1 (row := some c.T) ⟨rfl, rfl, rfl, by simp, fun k _ hk => heap_setCell_other w2 ⟨c.T, 11, none⟩ k _ (fun e => hk (by simp [e]))⟩ (fun k hk e => ?_)
              obtain ⟨cur, hcur⟩ := own_block h1 hk
              have e' : k = c.T := by simpa using e
              have h2 := hb2.tb
              rw [← e', hcur] at h2
              simp at h2
            have hne3 : b ∉ c.E :: ((G ++ [g]) ++ S2) := (nodup_pop hb2.nd).2
            clear hw3 hp3 h11 hfz hvb
            simp only [leafV]
            go_wp2
            go_meet
            case rel => exact ⟨0, G ++ [g], S2, some ⟨R, 0, none⟩, scap', b, by omega, by simp; omega, by simp at hsp ⊢; omega, rfl, hb3, ⟨ho3, hne3, by omega⟩, hbel3⟩
        · have e1 : ((m : Int) == 32) = false := by simp; omega
          go_wp2
          go_meet
          case rel => exact ⟨m, G, S', sa', scap', g, by omega, hat, hsp, rfl, hba, hcu, hbel⟩
      case rest =>
        clear hba hcu hbel hat hsp hm32
        obtain ⟨m1, G1, S1, sa1, scap1, g1, hm1, hat1, hsp1, rfl, hb1, hc1, hbel1⟩ := hcut
        have hrow := hc1.row
        by_cases hmin : c.n - k ≤ 32 - m1
        · have hbd : (c.n : Int) - (k : Int) ≤ 32 - (m1 : Int) := by omega
          go_wp2_with fail
          have hnews : ∀ (j : Nat) (u : Value), (ecells c.W (c.p + k) (c.n - k))[j]? = some u → wc.drew.cell? ((⟨c.E, k * 4, none⟩ : Addr).add j) = some u := fun j u hu => by
            have hj : j < (c.n - k) * 4 := by have := (List.getElem?_eq_some_iff.1 hu).1; rwa [ecells_len] at this
            rw [Addr.add_lit]
            show wc.cell? ⟨c.E, k * 4 + j, none⟩ = some u
            rw [hb1.es.cellAt (k * 4 + j) (by omega)]
            exact ecells_part c.W c.p c.n k (c.n - k) j u (by omega) hu
          have hrow' := hrow.drew
          go_region_held3 (fun _ => True) (exact True.intro) ((refine step_append_fits (by rfl) (.tmp 31) (.tmp 34) 24 (by rfl) c.B 37 i37 4 Yba.underlying24 hi37 hs37 g1 m1 32 (ecells c.W (G1.length * 32) m1) (by rfl) hrow' ⟨c.E, k * 4, none⟩ (c.n - k) (c.n - k) (ecells c.W (c.p + k) (c.n - k)) (by rfl) (ecells_len _ _ _) hnews (ecells_one _ _ _) (by omega) ?_; intro w5 ho5 hg5))
          have R := lay_step hb1 hc1 hbel1 hat1 (by omega) ho5 hg5
          clear hnews hrow' hrow ho5 hg5 hb1 hc1 hbel1
          go_wp2
          go_roundw
          case rel => exact ⟨c.n, k * 4, m1 + (c.n - k), G1, S1, sa1, scap1, g1, by simp, by omega, fun h => by omega, rfl, R.1, R.2.1, by omega, fun h => by omega, fun h => by omega, hsp1, R.2.2⟩
          case measure => simp [lenOf]; omega
        · have hbd : 32 - (m1 : Int) ≤ (c.n : Int) - (k : Int) := by omega
          obtain ⟨d, hd⟩ : ∃ d, m1 + d = 32 := ⟨32 - m1, by omega⟩
          have ed : (32 : Int) - (m1 : Int) = (d : Int) := by omega
          have hne2 : ¬ c.n - k = d := by omega
          have bd1 : (0 : Int) ≤ (d : Int) := by omega
          have bd2 : (d : Int) ≤ ((c.n - k : Nat) : Int) := by omega
          have HD : Hid (m1 + d = 32) := hd
          go_wp2_with fail
          have hnews : ∀ (j : Nat) (u : Value), (ecells c.W (c.p + k) d)[j]? = some u → wc.drew.cell? ((⟨c.E, k * 4, none⟩ : Addr).add j) = some u := fun j u hu => by
            have hj : j < d * 4 := by have := (List.getElem?_eq_some_iff.1 hu).1; rwa [ecells_len] at this
            rw [Addr.add_lit]
            show wc.cell? ⟨c.E, k * 4 + j, none⟩ = some u
            rw [hb1.es.cellAt (k * 4 + j) (by omega)]
            exact ecells_part c.W c.p c.n k d j u (by omega) hu
          have hrow' := hrow.drew
          go_region_held3 (fun _ => True) (exact True.intro) ((refine step_append_fits (by rfl) (.tmp 31) (.tmp 34) 24 (by rfl) c.B 37 i37 4 Yba.underlying24 hi37 hs37 g1 m1 32 (ecells c.W (G1.length * 32) m1) (by rfl) hrow' ⟨c.E, k * 4, none⟩ d (c.n - k) (ecells c.W (c.p + k) d) (by rfl) (ecells_len _ _ _) hnews (ecells_one _ _ _) (by omega) ?_; intro w5 ho5 hg5))
          have R := lay_step hb1 hc1 hbel1 hat1 (by omega) ho5 hg5
          clear hnews hrow' hrow ho5 hg5 hb1 hc1 hbel1
          go_wp2
          go_roundw
          case rel => exact ⟨k + d, k * 4 + d * 4, m1 + d, G1, S1, sa1, scap1, g1, by rw [Nat.sub_sub], by omega, fun h => by omega, by rw [HD.out], R.1, R.2.1, by omega, fun h => by omega, fun h => by omega, hsp1, R.2.2⟩
          case measure => simp [lenOf]; omega
    · have e0 : c.n - k = 0 := by omega
      have hkn : k = c.n := by omega
      subst hkn
      go_wp2
      go_ret2
      exact ⟨G, S', sa', scap', g, m, _, rfl, hba, hcu, hat, hz, hpos, hsp, hbel⟩
end Go.Proofs.Ybulkakwk
