/-
  Three small maps of package sip (by a string, by a callKey, by a dialogKey; the elements pointers): what a look-up, a store at a new key, a delete and len do where the entries are known.
-/
import Derived.Test.YbulkakwyRows
import Derived.WalkKit
import Derived.ProofKit
import Derived.Below
import Derived.WalkSpells
import Derived.Maps.OwnSet
namespace Go.Proofs.Ybulkakwy
open Go.RowKit Go.ChangeMaps

/-- That the search for key k in the entries es ends in r, in whatever world; and that k may be a key. -/
structure Finds (kt : TypeId) (k : Value) (es : List MapEntry) (r : Option (Nat × Value)) : Prop where
  check : ∀ (e : Bool) (w : World), (Instr.checkKey e 10000 kt k).run Yba.prog w = .ok () w
  find : ∀ w : World, (Instr.findKey kt k es).run Yba.prog w = .ok r w

theorem check9 (s : ByteArray) (e : Bool) (w : World) : (Instr.checkKey e 10000 9 (.string s)).run Yba.prog w = .ok () w := by
  cases e <;> kernel_rfl
theorem check24 (a b : ByteArray) (c : Int) (e : Bool) (w : World) : (Instr.checkKey e 10000 24 (.agg #[.string a, .string b, .int .u32 c])).run Yba.prog w = .ok () w := by
  cases e <;> kernel_rfl
theorem check71 (a b c : ByteArray) (e : Bool) (w : World) : (Instr.checkKey e 10000 71 (.agg #[.string a, .string b, .string c])).run Yba.prog w = .ok () w := by
  cases e <;> kernel_rfl

theorem eq24 (a b a' b' : ByteArray) (c c' : Int) (w : World) : (Op.equal 24 (.agg #[.string a, .string b, .int .u32 c]) (.agg #[.string a', .string b', .int .u32 c'])).run Yba.prog w = .ok (a.toList == a'.toList && (b.toList == b'.toList && c == c')) w := by
  unfold Op.equal Op.maxDepth
  simp [go_sem]
  by_cases h1 : a.toList = a'.toList <;> by_cases h2 : b.toList = b'.toList <;> by_cases h3 : c = c' <;> simp [h1, h2, h3]
theorem eq71 (a b a' b' c c' : ByteArray) (w : World) : (Op.equal 71 (.agg #[.string a, .string b, .string c]) (.agg #[.string a', .string b', .string c'])).run Yba.prog w = .ok (a.toList == a'.toList && (b.toList == b'.toList && c.toList == c'.toList)) w := by
  unfold Op.equal Op.maxDepth
  simp [go_sem]
  by_cases h1 : a.toList = a'.toList <;> by_cases h2 : b.toList = b'.toList <;> by_cases h3 : c.toList = c'.toList <;> simp [h1, h2, h3]

/-- That two keys are equal, or not: 'b', in whatever world; and that the quick look says the same or nothing. -/
structure Same (kt : TypeId) (k k' : Value) (b : Bool) : Prop where
  now : Instr.sameNow ((Yba.prog.underlying kt).getD .bool) k k' = some b ∨ Instr.sameNow ((Yba.prog.underlying kt).getD .bool) k k' = none
  asked : ∀ w : World, (Op.equal kt k k').run Yba.prog w = .ok b w

theorem same9 (a a' : ByteArray) (b : Bool) (h : (a == a') = b) : Same 9 (.string a) (.string a') b := by
  refine ⟨.inl ?_, fun w => ?_⟩
  · simp only [Yba.underlying9, Option.getD_some, Instr.sameNow, h]
  · unfold Op.equal Op.maxDepth
    rw [beq_toListBytes] at h
    simp [go_sem, h]
theorem same24 (a b a' b' : ByteArray) (c c' : Int) (r : Bool) (h : (a.toList == a'.toList && (b.toList == b'.toList && c == c')) = r) : Same 24 (.agg #[.string a, .string b, .int .u32 c]) (.agg #[.string a', .string b', .int .u32 c']) r := by
  refine ⟨.inr ?_, fun w => ?_⟩
  · simp only [Yba.underlying24, Option.getD_some, Instr.sameNow]
  · rw [eq24, h]
theorem same71 (a b a' b' c c' : ByteArray) (r : Bool) (h : (a.toList == a'.toList && (b.toList == b'.toList && c.toList == c'.toList)) = r) : Same 71 (.agg #[.string a, .string b, .string c]) (.agg #[.string a', .string b', .string c']) r := by
  refine ⟨.inr ?_, fun w => ?_⟩
  · simp only [Yba.underlying71, Option.getD_some, Instr.sameNow]
  · rw [eq71, h]

/-- What the search finds: the first entry whose key is equal. -/
def hit : List (Bool × Value) → Nat → Option (Nat × Value)
  | [], _ => none
  | (true, v) :: _, i => some (i, v)
  | (false, _) :: l, i => hit l (i + 1)

theorem asking {kt : TypeId} {k : Value} (w : World) : ∀ (es : List MapEntry) (bs : List Bool) (i : Nat), es.length = bs.length → (∀ (j : Nat) (e : MapEntry) (b : Bool), es[j]? = some e → bs[j]? = some b → Same kt k e.key b) →
    (Instr.findAsking kt k es i).run Yba.prog w = .ok (hit (bs.zip (es.map (·.val))) i) w
  | [], [], i, _, _ => by simp [Instr.findAsking, hit]
  | e :: es, b :: bs, i, hl, h => by
    have h0 := (h 0 e b rfl rfl).asked w
    have ih := asking (kt := kt) (k := k) w es bs (i + 1) (by simpa using hl) (fun j e b h1 h2 => h (j + 1) e b (by simpa using h1) (by simpa using h2))
    unfold Instr.findAsking
    simp only [Sem.run_bind, h0, Result.andThen_ok, List.map_cons, List.zip_cons_cons]
    cases b with
    | true => simp [hit]
    | false => simpa [hit] using ih
  | [], _ :: _, _, hl, _ => by simp at hl
  | _ :: _, [], _, hl, _ => by simp at hl

theorem quick {kt : TypeId} {k : Value} : ∀ (es : List MapEntry) (bs : List Bool) (i : Nat), es.length = bs.length → (∀ (j : Nat) (e : MapEntry) (b : Bool), es[j]? = some e → bs[j]? = some b → Same kt k e.key b) →
    Instr.findNow ((Yba.prog.underlying kt).getD .bool) k es i = some (hit (bs.zip (es.map (·.val))) i) ∨ Instr.findNow ((Yba.prog.underlying kt).getD .bool) k es i = none
  | [], [], i, _, _ => by simp [Instr.findNow, hit]
  | e :: es, b :: bs, i, hl, h => by
    have ih := quick (kt := kt) (k := k) es bs (i + 1) (by simpa using hl) (fun j e b h1 h2 => h (j + 1) e b (by simpa using h1) (by simpa using h2))
    rcases (h 0 e b rfl rfl).now with h0 | h0
    · unfold Instr.findNow
      rw [h0]
      cases b with
      | true => exact .inl (by simp [hit])
      | false => simpa [hit] using ih
    · unfold Instr.findNow
      rw [h0]
      exact .inr rfl
  | [], _ :: _, _, hl, _ => by simp at hl
  | _ :: _, [], _, hl, _ => by simp at hl

theorem finds {kt : TypeId} {d : TypeDesc} {k : Value} (hu : Yba.prog.underlying kt = some d) (hc : ∀ (e : Bool) (w : World), (Instr.checkKey e 10000 kt k).run Yba.prog w = .ok () w) (es : List MapEntry) (bs : List Bool) (hl : es.length = bs.length)
    (h : ∀ (j : Nat) (e : MapEntry) (b : Bool), es[j]? = some e → bs[j]? = some b → Same kt k e.key b) : Finds kt k es (hit (bs.zip (es.map (·.val))) 0) := by
  refine ⟨hc, fun w => ?_⟩
  unfold Instr.findKey
  simp only [Sem.run_bind, run_underlying hu, Result.andThen_ok]
  have q := quick (kt := kt) (k := k) es bs 0 hl h
  rw [hu] at q
  simp only [Option.getD_some] at q
  rcases q with q | q
  · rw [q]; simp
  · rw [q]; exact asking w es bs 0 hl h

/-! ### The operations -/
theorem lookup_run {t kt : TypeId} {k : Value} {w : World} {r c : Nat} {es : Array MapEntry} {f : Option (Nat × Value)} (ht : Yba.prog.underlying t = some (.map kt 25)) (hb : w.heap[r]? = some (.map es c)) (hf : Finds kt k es.toList f) (ok : Bool) :
    (Instr.lookup t (.map (some r)) k ok).run Yba.prog w = .ok (if ok then .tuple #[(f.map (·.2)).getD (.pointer none), .bool f.isSome] else (f.map (·.2)).getD (.pointer none)) w := by
  unfold Instr.lookup
  simp only [Sem.run_bind, run_underlying ht, Result.andThen_ok, MapKept.run_getObj_map hb, Sem.run_pure, hf.check, hf.find]
  cases f with
  | none => simp [Yba.zeroValue25]
  | some p => simp

theorem update_run {t kt : TypeId} {k v : Value} {w : World} {r c : Nat} {es : Array MapEntry} (ht : Yba.prog.underlying t = some (.map kt 25)) (hb : w.heap[r]? = some (.map es c)) (hf : Finds kt k es.toList none) :
    (Instr.mapUpdate t (.map (some r)) k v).run Yba.prog w = .ok () (setBlock w r (.map (es.push ⟨k, v, c⟩) (c + 1))) := by
  unfold Instr.mapUpdate
  simp only [Sem.run_bind, run_underlying ht, Result.andThen_ok, MapKept.run_getObj_map hb, hf.check, hf.find]
  rw [MapKept.run_setObj_map _ hb]
  rfl

theorem delete_run {t kt ty : TypeId} {k v : Value} {w : World} {r c i : Nat} {es : Array MapEntry} (ht : Yba.prog.underlying t = some (.map kt 25)) (hb : w.heap[r]? = some (.map es c)) (hf : Finds kt k es.toList (some (i, v))) :
    (Builtin.delete_ #[t, kt] ty #[.map (some r), k]).run Yba.prog w = .ok (.tuple #[]) (setBlock w r (.map (es.eraseIdxIfInBounds i) c)) := by
  unfold Builtin.delete_
  simp [run_underlying ht, MapKept.run_getObj_map hb, hf.check, hf.find, MapKept.run_setObj_map _ hb, setBlock]

theorem len_run {t kt ty : TypeId} {w : World} {r c : Nat} {es : Array MapEntry} (ht : Yba.prog.underlying t = some (.map kt 25)) (hb : w.heap[r]? = some (.map es c)) :
    (Builtin.len_ #[t] ty #[.map (some r)]).run Yba.prog w = .ok (.int .i64 es.size) w := by
  unfold Builtin.len_
  simp [run_underlying ht, MapKept.run_getObj_map hb, goInt]

end Go.Proofs.Ybulkakwy
