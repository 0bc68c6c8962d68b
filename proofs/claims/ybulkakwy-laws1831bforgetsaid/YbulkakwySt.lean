/-
  What the walk of sip.LawS1831BForget holds of memory: the blocks that it made, by name; the three maps' entries; the lock's state word.
-/
import Derived.Test.YbulkakwyDialog
import Derived.Test.YbulkakwyMaps
import Derived.Deep.QuietTactic
import Derived.BigQuiet
import Derived.LaidEqlPtr
import Derived.Lib.Builder
namespace Go.Proofs.Ybulkakwy
open Go.RowKit Go.ChangeMaps

def xx : ByteArray := ⟨#[120]⟩
def oo : ByteArray := ⟨#[111]⟩
/-- The cells of '&InviteTransaction{key: .., call: .., tag: ..}'. -/
def txc (key call frm tag : ByteArray) (cseq : Int) : Array Value :=
  #[.pointer none, .int .u64 0, .int .i64 0, .pointer none, .pointer none, .string key, .string call, .string frm, .int .u32 cseq, .int .u64 0, .int .u64 0, .pointer none, .int .u16 0, .string tag, .int .i32 0,
    .int .u32 0, .int .u32 0, .bool false, .slice none 0 0, .int .u64 0, .int .i64 0, .pointer none, .chan none, .chan none, .chan none, .bool false, .bool false]
/-- The cells of '&Server{invites: .., calls: .., dialogs: ..}', the lock's state word lk. -/
def svc (lk : Int) (I C D : Nat) : Array Value :=
  #[.pointer none, .nilFunc, .int .i64 0, .int .i32 lk, .int .u32 0, .map (some I), .map (some C), .map (some D), .map none, .map none, .chan none, .chan none, .int .u64 0, .int .u32 0]

/-- The blocks' numbers. -/
structure Nums where
  T : Nat
  O : Nat
  I : Nat
  C : Nat
  D : Nat
  S : Nat
  K : Nat
  K2 : Nat
  G : Nat
  G2 : Nat

structure St (w W : World) (n : Nums) (key call frm tag : ByteArray) (cseq lk : Int) (mI mC mD : Array MapEntry × Nat) : Prop where
  tx : W.heap[n.T]? = some (.cells (txc key call frm tag cseq) 53 (0, 0))
  ot : W.heap[n.O]? = some (.cells (txc (key ++ oo) call frm tag cseq) 53 (0, 0))
  k1 : W.heap[n.K]? = some (.cells #[.string call, .string frm, .int .u32 cseq] 24 (0, 0))
  k2 : W.heap[n.K2]? = some (.cells #[.string (call ++ xx), .string frm, .int .u32 cseq] 24 (0, 0))
  g1 : W.heap[n.G]? = some (.cells #[.string call, .string frm, .string tag] 71 (0, 0))
  g2 : W.heap[n.G2]? = some (.cells #[.string call, .string frm, .string (tag ++ xx)] 71 (0, 0))
  sv : W.heap[n.S]? = some (.cells (svc lk n.I n.C n.D) 69 (0, 0))
  mi : W.heap[n.I]? = some (.map mI.1 mI.2)
  mc : W.heap[n.C]? = some (.map mC.1 mC.2)
  md : W.heap[n.D]? = some (.map mD.1 mD.2)
  ic : n.I ≠ n.C
  id : n.I ≠ n.D
  cd : n.C ≠ n.D
  bel : Below w.heap.size w W
  lo : w.heap.size ≤ n.I ∧ w.heap.size ≤ n.C ∧ w.heap.size ≤ n.D ∧ w.heap.size ≤ n.S

section
variable {w W : World} {n : Nums} {key call frm tag : ByteArray} {cseq lk : Int} {mI mC mD : Array MapEntry × Nat}

/-- Whatever turns no block that is there. -/
theorem St.grown {W' : World} (h : St w W n key call frm tag cseq lk mI mC mD) (hg : W.grownBy W' none) : St w W' n key call frm tag cseq lk mI mC mD := by
  have e : ∀ {b : Nat} {o : Obj}, W.heap[b]? = some o → W'.heap[b]? = some o := fun {b o} hb => by
    rw [hg.block b (Array.getElem?_eq_some_iff.1 hb).1 (by simp)]; exact hb
  exact ⟨e h.tx, e h.ot, e h.k1, e h.k2, e h.g1, e h.g2, e h.sv, e h.mi, e h.mc, e h.md, h.ic, h.id, h.cd, h.bel.grown hg h.bel.size (fun k hk => by cases hk), h.lo⟩

theorem grown_drewN (W : World) (k : Nat) : W.grownBy (W.drewN k) none := ⟨rfl, rfl, rfl, Nat.le_refl _, fun _ _ _ => rfl⟩
theorem grown_drew (W : World) : W.grownBy W.drew none := ⟨rfl, rfl, rfl, Nat.le_refl _, fun _ _ _ => rfl⟩

/-- A map turned. -/
theorem St.turn {b : Nat} {es : Array MapEntry} {c : Nat} (h : St w W n key call frm tag cseq lk mI mC mD) (hb : W.heap[b]? = some (.map es c)) (es' : Array MapEntry) (c' : Nat) (hlo : w.heap.size ≤ b)
    {mI' mC' mD' : Array MapEntry × Nat} (hi : (setBlock W b (.map es' c')).heap[n.I]? = some (.map mI'.1 mI'.2)) (hc : (setBlock W b (.map es' c')).heap[n.C]? = some (.map mC'.1 mC'.2)) (hd : (setBlock W b (.map es' c')).heap[n.D]? = some (.map mD'.1 mD'.2)) :
    St w (setBlock W b (.map es' c')) n key call frm tag cseq lk mI' mC' mD' := by
  have e : ∀ {k : Nat} {cs : Array Value} {t : TypeId}, W.heap[k]? = some (.cells cs t (0, 0)) → (setBlock W b (.map es' c')).heap[k]? = some (.cells cs t (0, 0)) := fun {k cs t} hk => by
    have hne : k ≠ b := fun e => by subst e; rw [hk] at hb; cases hb
    rw [heap_setBlock_other hb _ hne]; exact hk
  refine ⟨e h.tx, e h.ot, e h.k1, e h.k2, e h.g1, e h.g2, e h.sv, hi, hc, hd, h.ic, h.id, h.cd, ?_, h.lo⟩
  exact h.bel.trans ⟨rfl, rfl, rfl, by simp [setBlock], fun k hk => heap_setBlock_other hb _ (by omega)⟩

theorem St.turnI (h : St w W n key call frm tag cseq lk mI mC mD) (es' : Array MapEntry) (c' : Nat) : St w (setBlock W n.I (.map es' c')) n key call frm tag cseq lk (es', c') mC mD :=
  h.turn h.mi es' c' h.lo.1 (heap_setBlock_same h.mi _) (by rw [heap_setBlock_other h.mi _ (Ne.symm h.ic)]; exact h.mc) (by rw [heap_setBlock_other h.mi _ (Ne.symm h.id)]; exact h.md)
theorem St.turnC (h : St w W n key call frm tag cseq lk mI mC mD) (es' : Array MapEntry) (c' : Nat) : St w (setBlock W n.C (.map es' c')) n key call frm tag cseq lk mI (es', c') mD :=
  h.turn h.mc es' c' h.lo.2.1 (by rw [heap_setBlock_other h.mc _ h.ic]; exact h.mi) (heap_setBlock_same h.mc _) (by rw [heap_setBlock_other h.mc _ (Ne.symm h.cd)]; exact h.md)
theorem St.turnD (h : St w W n key call frm tag cseq lk mI mC mD) (es' : Array MapEntry) (c' : Nat) : St w (setBlock W n.D (.map es' c')) n key call frm tag cseq lk mI mC (es', c') :=
  h.turn h.md es' c' h.lo.2.2.1 (by rw [heap_setBlock_other h.md _ h.id]; exact h.mi) (by rw [heap_setBlock_other h.md _ h.cd]; exact h.mc) (heap_setBlock_same h.md _)

/-- The lock's word turned. -/
theorem St.lock (h : St w W n key call frm tag cseq lk mI mC mD) (x : Int) : St w (W.setCell ⟨n.S, 3, none⟩ (.int .i32 x)) n key call frm tag cseq x mI mC mD := by
  have hs := heap_setCell_same W n.S 3 _ 69 (.int .i32 x) h.sv
  have hm : ∀ {k : Nat} {es : Array MapEntry} {c : Nat}, W.heap[k]? = some (.map es c) → (W.setCell ⟨n.S, 3, none⟩ (.int .i32 x)).heap[k]? = some (.map es c) := fun {k es c} hk => by
    have hne : k ≠ n.S := fun e => by have := h.sv; rw [← e, hk] at this; cases this
    rw [heap_setCell_other W ⟨n.S, 3, none⟩ k _ hne]; exact hk
  have hc : ∀ {k : Nat} {cs : Array Value} {t : TypeId}, t ≠ 69 → W.heap[k]? = some (.cells cs t (0, 0)) → (W.setCell ⟨n.S, 3, none⟩ (.int .i32 x)).heap[k]? = some (.cells cs t (0, 0)) := fun {k cs t} ht hk => by
    have hne : k ≠ n.S := fun e => by have := h.sv; rw [← e, hk] at this; simp at this; exact ht this.2
    rw [heap_setCell_other W ⟨n.S, 3, none⟩ k _ hne]; exact hk
  exact ⟨hc (by decide) h.tx, hc (by decide) h.ot, hc (by decide) h.k1, hc (by decide) h.k2, hc (by decide) h.g1, hc (by decide) h.g2, hs, hm h.mi, hm h.mc, hm h.md, h.ic, h.id, h.cd, h.bel.setCell h.lo.2.2.2 _, h.lo⟩

theorem cellAt {b j : Nat} {cs : Array Value} {t : TypeId} (h : W.heap[b]? = some (.cells cs t (0, 0))) (v : Value) (hj : cs[j]? = some v) : W.cell? ⟨b, j, none⟩ = some v := by
  rw [cell_of_row W b j cs t (0, 0) h]; exact hj
theorem frozenAt {b j : Nat} {cs : Array Value} {t : TypeId} (h : W.heap[b]? = some (.cells cs t (0, 0))) : W.frozen? ⟨b, j, none⟩ = false := frozen_of_row W b j cs t h
end

/-! ### Pointers held against each other -/
theorem info53 : ∃ j, Yba.prog.info? 53 = some j ∧ j.size ≠ 0 := by
  have h : (Yba.prog.info? 53).map (fun i => i.size) = some 27 := by kernel_rfl
  cases hj : Yba.prog.info? 53 with
  | none => rw [hj] at h; cases h
  | some j => rw [hj] at h; exact ⟨j, rfl, by simp at h; omega⟩
theorem eql_same (a : Addr) (W : World) : (binOp .eql 25 (.pointer (some a)) (.pointer (some a))).run Yba.prog W = .ok (.bool true) W := by
  obtain ⟨j, hj, _⟩ := info53
  exact run_eql_ptr_same W a Yba.underlying25 hj
theorem neq_same (a : Addr) (W : World) : (binOp .neq 25 (.pointer (some a)) (.pointer (some a))).run Yba.prog W = .ok (.bool false) W := by
  obtain ⟨j, hj, _⟩ := info53
  exact Lib.run_neq_ptr_same W a Yba.underlying25 hj
theorem eql_nil_left (b : Addr) (W : World) : (binOp .eql 25 (.pointer none) (.pointer (some b))).run Yba.prog W = .ok (.bool false) W := by
  have h : ∀ d : Nat, (Op.equalIn (d + 1) 25 (.pointer none) (.pointer (some b))).run Yba.prog W = .ok false W := fun d => by
    simp [Op.equalIn, run_underlying Yba.underlying25]
  simp only [binOp]
  simp [Op.equal, Op.maxDepth, h 9999]
theorem St.eql_OT {w W : World} {n : Nums} {key call frm tag : ByteArray} {cseq lk : Int} {mI mC mD : Array MapEntry × Nat} (h : St w W n key call frm tag cseq lk mI mC mD) (hne : n.T ≠ n.O) :
    (binOp .eql 25 (.pointer (some ⟨n.O, 0, none⟩)) (.pointer (some ⟨n.T, 0, none⟩))).run Yba.prog W = .ok (.bool false) W := by
  obtain ⟨j, hj, hz⟩ := info53
  exact run_eql_ptr_other W Yba.underlying25 hj hz (fun e => hne (by simpa using e.symm)) h.ot h.tx

/-! ### The entries -/
structure Keys (kt : TypeId) (k k2 : Value) : Prop where
  und : ∃ d, Yba.prog.underlying kt = some d
  c1 : ∀ (e : Bool) (w : World), (Instr.checkKey e 10000 kt k).run Yba.prog w = .ok () w
  c2 : ∀ (e : Bool) (w : World), (Instr.checkKey e 10000 kt k2).run Yba.prog w = .ok () w
  s11 : Same kt k k true
  s22 : Same kt k2 k2 true
  s12 : Same kt k k2 false
  s21 : Same kt k2 k false

/-- Before forget: 0: only the other key; 1: this key too, with tx; 2: with the other transaction. -/
def ent (k2 k tx oth : Value) (s : Nat) : Array MapEntry × Nat :=
  if s = 1 then (#[⟨k2, tx, 0⟩, ⟨k, tx, 1⟩], 2) else if s = 2 then (#[⟨k2, tx, 0⟩, ⟨k, oth, 1⟩], 2) else (#[⟨k2, tx, 0⟩], 1)
/-- Behind it. -/
def aft (k2 k tx oth : Value) (s : Nat) : Array MapEntry × Nat :=
  if s = 1 then (#[⟨k2, tx, 0⟩], 2) else if s = 2 then (#[⟨k2, tx, 0⟩, ⟨k, oth, 1⟩], 2) else (#[⟨k2, tx, 0⟩], 1)

theorem find0 {kt : TypeId} {k : Value} (hu : ∃ d, Yba.prog.underlying kt = some d) (hc : ∀ (e : Bool) (w : World), (Instr.checkKey e 10000 kt k).run Yba.prog w = .ok () w) : Finds kt k [] none := by
  obtain ⟨d, hu⟩ := hu
  exact finds hu hc [] [] rfl (fun j e b h => by simp at h)
theorem find1 {kt : TypeId} {k k' v : Value} {b : Bool} {bn : Nat} (hu : ∃ d, Yba.prog.underlying kt = some d) (hc : ∀ (e : Bool) (w : World), (Instr.checkKey e 10000 kt k).run Yba.prog w = .ok () w) (h : Same kt k k' b) : Finds kt k [⟨k', v, bn⟩] (hit [(b, v)] 0) := by
  obtain ⟨d, hu⟩ := hu
  exact finds hu hc [⟨k', v, bn⟩] [b] rfl (fun j e b' h1 h2 => by
    match j, h1, h2 with
    | 0, h1, h2 => simp at h1 h2; subst h1; subst h2; exact h)
theorem find2 {kt : TypeId} {k k' k'' v v' : Value} {b b' : Bool} {bn bn' : Nat} (hu : ∃ d, Yba.prog.underlying kt = some d) (hc : ∀ (e : Bool) (w : World), (Instr.checkKey e 10000 kt k).run Yba.prog w = .ok () w) (h : Same kt k k' b) (h' : Same kt k k'' b') : Finds kt k [⟨k', v, bn⟩, ⟨k'', v', bn'⟩] (hit [(b, v), (b', v')] 0) := by
  obtain ⟨d, hu⟩ := hu
  exact finds hu hc [⟨k', v, bn⟩, ⟨k'', v', bn'⟩] [b, b'] rfl (fun j e c h1 h2 => by
    match j, h1, h2 with
    | 0, h1, h2 => simp at h1 h2; subst h1; subst h2; exact h
    | 1, h1, h2 => simp at h1 h2; subst h1; subst h2; exact h')

section
variable {kt : TypeId} {k k2 tx oth : Value}
theorem Keys.new2 (K : Keys kt k k2) : Finds kt k2 (#[] : Array MapEntry).toList none := find0 K.und K.c2
theorem Keys.new1 (K : Keys kt k k2) : Finds kt k (ent k2 k tx oth 0).1.toList none := find1 K.und K.c1 K.s12
theorem Keys.has1 (K : Keys kt k k2) : Finds kt k (ent k2 k tx oth 1).1.toList (some (1, tx)) := find2 K.und K.c1 K.s12 K.s11
theorem Keys.has2 (K : Keys kt k k2) : Finds kt k (ent k2 k tx oth 2).1.toList (some (1, oth)) := find2 K.und K.c1 K.s12 K.s11
theorem Keys.aft0 (K : Keys kt k k2) : Finds kt k (aft k2 k tx oth 0).1.toList none := find1 K.und K.c1 K.s12
theorem Keys.aft1 (K : Keys kt k k2) : Finds kt k (aft k2 k tx oth 1).1.toList none := find1 K.und K.c1 K.s12
theorem Keys.aft2 (K : Keys kt k k2) : Finds kt k (aft k2 k tx oth 2).1.toList (some (1, oth)) := find2 K.und K.c1 K.s12 K.s11
theorem Keys.two (K : Keys kt k k2) (s : Nat) : Finds kt k2 (aft k2 k tx oth s).1.toList (some (0, tx)) := by
  unfold aft
  by_cases h1 : s = 1
  · rw [if_pos h1]; exact find1 K.und K.c2 K.s22
  · by_cases h2 : s = 2
    · rw [if_neg h1, if_pos h2]; exact find2 K.und K.c2 K.s22 K.s21
    · rw [if_neg h1, if_neg h2]; exact find1 K.und K.c2 K.s22
end

end Go.Proofs.Ybulkakwy
