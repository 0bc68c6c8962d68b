/-
  '[]rune(s)' and 'string(runes)': the characters of a string as a list of numbers; decoding what was encoded gives it back.
-/
import Derived.Laws.IdiomStrings
import Derived.Laws.Cover4
import Derived.Laws.Runes
namespace Go.Proofs.Ybulkalhe

/-- The characters from byte i on. -/
def runesN (s : ByteArray) : Nat → Nat → List Int
  | 0, _ => []
  | bound + 1, i => if i < s.size then ((Utf8.decode s i).1 : Int) :: runesN s bound (i + (Utf8.decode s i).2) else []

def runesL (s : ByteArray) : List Int := runesN s s.size 0

theorem runesFrom_eq (s : ByteArray) : ∀ (bound i : Nat) (acc : Array Value), Conv.runesFrom s bound i acc = acc ++ ((runesN s bound i).map (Value.int .i32)).toArray
  | 0, i, acc => by simp [Conv.runesFrom, runesN]
  | bound + 1, i, acc => by
    unfold Conv.runesFrom runesN
    by_cases h : i < s.size
    · simp only [h, if_true]
      rw [runesFrom_eq s bound]
      simp
    · simp [h]

theorem runesFrom_all (s : ByteArray) : Conv.runesFrom s s.size 0 #[] = ((runesL s).map (Value.int .i32)).toArray := by
  rw [runesFrom_eq]
  simp [runesL]

theorem runesN_len (s : ByteArray) : ∀ (bound i : Nat), (runesN s bound i).length ≤ bound
  | 0, _ => by simp [runesN]
  | bound + 1, i => by
    unfold runesN
    split
    · have := runesN_len s bound (i + (Utf8.decode s i).2)
      simp; omega
    · simp

theorem runesL_len (s : ByteArray) : (runesL s).length ≤ s.size := runesN_len s _ _

theorem decode_valid (s : ByteArray) (i : Nat) : Utf8.valid ((Utf8.decode s i).1 : Int) = true := by
  have ve : Utf8.valid ((Utf8.runeError : Nat) : Int) = true := by decide
  unfold Utf8.decode
  simp only [Nat.add_zero]
  split
  · rw [validRune_eq]; unfold validRune; simp; omega
  · split
    · split
      · rw [validRune_eq]; unfold validRune; simp; omega
      · exact ve
    · split
      · split
        · rename_i h; simp at h; exact h.2
        · exact ve
      · split
        · split
          · rename_i h; simp at h; exact h.2
          · exact ve
        · exact ve

theorem runesN_valid (s : ByteArray) : ∀ (bound i : Nat), ∀ r ∈ runesN s bound i, Utf8.valid r = true
  | 0, _ => by simp [runesN]
  | bound + 1, i => by
    unfold runesN
    split
    · intro r hr
      rcases List.mem_cons.1 hr with rfl | hr
      · exact decode_valid s i
      · exact runesN_valid s _ _ r hr
    · simp

theorem runesL_valid (s : ByteArray) : ∀ r ∈ runesL s, Utf8.valid r = true := runesN_valid s _ _

def encL (l : List Int) : List UInt8 := l.flatMap fun n => (Utf8.encode n).data.toList

theorem foldl_enc : ∀ (l : List Int) (s : ByteArray), (l.foldl (fun r n => r ++ Utf8.encode n) s).data.toList = s.data.toList ++ encL l
  | [], s => by simp [encL]
  | n :: l, s => by
    simp only [List.foldl_cons]
    rw [foldl_enc l]
    simp [encL, ByteArray.data_append]

theorem runesBytes_list (l : List Int) : (runesBytes l).data.toList = encL l := by
  unfold runesBytes
  rw [foldl_enc]
  simp

theorem get_list (s : ByteArray) (k : Nat) : s.get! k = s.data.toList.getD k 0 := by
  cases s with
  | mk d =>
    show d[k]! = _
    by_cases h : k < d.size
    · simp [h]
    · simp [h]; rfl

theorem size_list (s : ByteArray) : s.size = s.data.toList.length := by
  cases s; rfl

theorem get_pre (s : ByteArray) (pre l : List UInt8) (h : s.data.toList = pre ++ l) (k : Nat) : s.get! (pre.length + k) = l.getD k 0 := by
  rw [get_list, h]
  simp [List.getElem?_append_right]

theorem ofNat_toNat (n : Nat) (h : n < 256) : (UInt8.ofNat n).toNat = n := by
  simp; omega

theorem valid_bounds {r : Int} (h : Utf8.valid r = true) : 0 ≤ r ∧ r.toNat < 1114112 := by
  rw [validRune_eq] at h
  unfold validRune at h
  simp at h
  omega

/-- Decoding, over the plain numbers of the four bytes and how many bytes there are. -/
def dec4 (n b0 b1 b2 b3 : Nat) : Nat × Nat :=
  if b0 < 128 then (b0, 1)
  else if b0 / 32 = 6 ∧ (1 < n ∧ b1 / 64 = 2) then
    if 128 ≤ b0 % 32 * 64 + b1 % 64 then (b0 % 32 * 64 + b1 % 64, 2) else (65533, 1)
  else if b0 / 16 = 14 ∧ (1 < n ∧ b1 / 64 = 2) ∧ (2 < n ∧ b2 / 64 = 2) then
    if 2048 ≤ b0 % 16 * 4096 + b1 % 64 * 64 + b2 % 64 ∧ Utf8.valid ((b0 % 16 * 4096 + b1 % 64 * 64 + b2 % 64 : Nat) : Int) = true then (b0 % 16 * 4096 + b1 % 64 * 64 + b2 % 64, 3) else (65533, 1)
  else if b0 / 8 = 30 ∧ (1 < n ∧ b1 / 64 = 2) ∧ (2 < n ∧ b2 / 64 = 2) ∧ (3 < n ∧ b3 / 64 = 2) then
    if 65536 ≤ b0 % 8 * 262144 + b1 % 64 * 4096 + b2 % 64 * 64 + b3 % 64 ∧ Utf8.valid ((b0 % 8 * 262144 + b1 % 64 * 4096 + b2 % 64 * 64 + b3 % 64 : Nat) : Int) = true then (b0 % 8 * 262144 + b1 % 64 * 4096 + b2 % 64 * 64 + b3 % 64, 4) else (65533, 1)
  else (65533, 1)

theorem decode_dec4 (s : ByteArray) (i : Nat) : Utf8.decode s i = dec4 (s.size - i) (s.get! (i + 0)).toNat (s.get! (i + 1)).toNat (s.get! (i + 2)).toNat (s.get! (i + 3)).toNat := by
  have c1 : (i + 1 < s.size) = (1 < s.size - i) := by apply propext; omega
  have c2 : (i + 2 < s.size) = (2 < s.size - i) := by apply propext; omega
  have c3 : (i + 3 < s.size) = (3 < s.size - i) := by apply propext; omega
  unfold Utf8.decode dec4
  simp only [c1, c2, c3, Utf8.runeError, Bool.and_eq_true, decide_eq_true_eq, beq_iff_eq, ge_iff_le, and_assoc]

theorem dec4_one (n c b1 b2 b3 : Nat) (h : c < 128) : dec4 n c b1 b2 b3 = (c, 1) := by
  unfold dec4; rw [if_pos h]
theorem dec4_two (n c b2 b3 : Nat) (hn : 1 < n) (h0 : 128 ≤ c) (h : c < 2048) : dec4 n (192 + c / 64) (128 + c % 64) b2 b3 = (c, 2) := by
  unfold dec4
  have e : (192 + c / 64) % 32 * 64 + (128 + c % 64) % 64 = c := by omega
  rw [if_neg (by omega), if_pos (by omega), if_pos (by omega), e]
theorem dec4_three (n c b3 : Nat) (hn : 2 < n) (h0 : 2048 ≤ c) (h : c < 65536) (hv : Utf8.valid (c : Int) = true) : dec4 n (224 + c / 4096) (128 + c / 64 % 64) (128 + c % 64) b3 = (c, 3) := by
  unfold dec4
  have e : (224 + c / 4096) % 16 * 4096 + (128 + c / 64 % 64) % 64 * 64 + (128 + c % 64) % 64 = c := by omega
  rw [if_neg (by omega), if_neg (by omega), if_pos (by omega), e, if_pos ⟨h0, hv⟩]
theorem dec4_four (n c : Nat) (hn : 3 < n) (h0 : 65536 ≤ c) (h : c < 1114112) (hv : Utf8.valid (c : Int) = true) : dec4 n (240 + c / 262144) (128 + c / 4096 % 64) (128 + c / 64 % 64) (128 + c % 64) = (c, 4) := by
  unfold dec4
  have e : (240 + c / 262144) % 8 * 262144 + (128 + c / 4096 % 64) % 64 * 4096 + (128 + c / 64 % 64) % 64 * 64 + (128 + c % 64) % 64 = c := by omega
  rw [if_neg (by omega), if_neg (by omega), if_neg (by omega), if_pos (by omega), e, if_pos ⟨h0, hv⟩]

/-- The bytes of a character's encoding, in the four cases. -/
theorem enc_one (r : Int) (hv : Utf8.valid r = true) (h : r.toNat < 128) : (Utf8.encode r).data.toList = [UInt8.ofNat r.toNat] := by
  unfold Utf8.encode; simp only [hv, if_true]; rw [if_pos h]
theorem enc_two (r : Int) (hv : Utf8.valid r = true) (h0 : ¬ r.toNat < 128) (h : r.toNat < 2048) : (Utf8.encode r).data.toList = [UInt8.ofNat (192 + r.toNat / 64), UInt8.ofNat (128 + r.toNat % 64)] := by
  unfold Utf8.encode; simp only [hv, if_true]; rw [if_neg h0, if_pos h]
theorem enc_three (r : Int) (hv : Utf8.valid r = true) (h0 : ¬ r.toNat < 128) (h1 : ¬ r.toNat < 2048) (h : r.toNat < 65536) :
    (Utf8.encode r).data.toList = [UInt8.ofNat (224 + r.toNat / 4096), UInt8.ofNat (128 + r.toNat / 64 % 64), UInt8.ofNat (128 + r.toNat % 64)] := by
  unfold Utf8.encode; simp only [hv, if_true]; rw [if_neg h0, if_neg h1, if_pos h]
theorem enc_four (r : Int) (hv : Utf8.valid r = true) (h0 : ¬ r.toNat < 128) (h1 : ¬ r.toNat < 2048) (h : ¬ r.toNat < 65536) :
    (Utf8.encode r).data.toList = [UInt8.ofNat (240 + r.toNat / 262144), UInt8.ofNat (128 + r.toNat / 4096 % 64), UInt8.ofNat (128 + r.toNat / 64 % 64), UInt8.ofNat (128 + r.toNat % 64)] := by
  unfold Utf8.encode; simp only [hv, if_true]; rw [if_neg h0, if_neg h1, if_neg h]

theorem at0 (a : UInt8) (l : List UInt8) : (a :: l).getD 0 0 = a := rfl
theorem at1 (a b : UInt8) (l : List UInt8) : (a :: b :: l).getD 1 0 = b := rfl
theorem at2 (a b c : UInt8) (l : List UInt8) : (a :: b :: c :: l).getD 2 0 = c := rfl
theorem at3 (a b c d : UInt8) (l : List UInt8) : (a :: b :: c :: d :: l).getD 3 0 = d := rfl

theorem decode_enc (s : ByteArray) (pre post : List UInt8) (r : Int) (hv : Utf8.valid r = true) (h : s.data.toList = pre ++ ((Utf8.encode r).data.toList ++ post)) :
    Utf8.decode s pre.length = (r.toNat, (Utf8.encode r).data.toList.length) := by
  have hg := get_pre s pre _ h
  have hs : s.size - pre.length = (Utf8.encode r).data.toList.length + post.length := by rw [size_list, h]; simp
  have hb := valid_bounds hv
  have hr : ((r.toNat : Nat) : Int) = r := by omega
  have hv' : Utf8.valid ((r.toNat : Nat) : Int) = true := by rw [hr]; exact hv
  rw [decode_dec4]
  by_cases h1 : r.toNat < 128
  · rw [enc_one r hv h1] at hg hs ⊢
    rw [hg 0, List.singleton_append, at0, ofNat_toNat _ (by omega), dec4_one _ _ _ _ _ h1]
    rfl
  · by_cases h2 : r.toNat < 2048
    · rw [enc_two r hv h1 h2] at hg hs ⊢
      simp only [List.length_cons, List.length_nil] at hs
      rw [hg 0, hg 1, List.cons_append, List.cons_append, at0, at1, ofNat_toNat _ (by omega), ofNat_toNat _ (by omega), dec4_two _ _ _ _ (by omega) (by omega) h2]
      rfl
    · by_cases h3 : r.toNat < 65536
      · rw [enc_three r hv h1 h2 h3] at hg hs ⊢
        simp only [List.length_cons, List.length_nil] at hs
        rw [hg 0, hg 1, hg 2, List.cons_append, List.cons_append, List.cons_append, at0, at1, at2, ofNat_toNat _ (by omega), ofNat_toNat _ (by omega), ofNat_toNat _ (by omega), dec4_three _ _ _ (by omega) (by omega) h3 hv']
        rfl
      · rw [enc_four r hv h1 h2 h3] at hg hs ⊢
        simp only [List.length_cons, List.length_nil] at hs
        rw [hg 0, hg 1, hg 2, hg 3, List.cons_append, List.cons_append, List.cons_append, List.cons_append, at0, at1, at2, at3, ofNat_toNat _ (by omega), ofNat_toNat _ (by omega), ofNat_toNat _ (by omega), ofNat_toNat _ (by omega), dec4_four _ _ (by omega) (by omega) (by omega) hv']
        rfl

theorem enc_pos (r : Int) : 1 ≤ (Utf8.encode r).data.toList.length := by
  unfold Utf8.encode
  simp only
  repeat' split
  all_goals simp

theorem runesN_enc : ∀ (l : List Int), (∀ r ∈ l, Utf8.valid r = true) → ∀ (s : ByteArray) (pre : List UInt8) (bound : Nat), s.data.toList = pre ++ encL l → l.length ≤ bound → runesN s bound pre.length = l
  | [], _, s, pre, bound, h, _ => by
    have hs : s.size = pre.length := by rw [size_list, h]; simp [encL]
    cases bound with
    | zero => rfl
    | succ b => unfold runesN; rw [if_neg (by omega)]
  | r :: l, hl, s, pre, bound, h, hb => by
    have h' : s.data.toList = pre ++ ((Utf8.encode r).data.toList ++ encL l) := by rw [h]; simp [encL]
    have hv := hl r (by simp)
    have hs : s.size = pre.length + ((Utf8.encode r).data.toList.length + (encL l).length) := by rw [size_list, h']; simp
    have hp := enc_pos r
    have hvb := valid_bounds hv
    cases bound with
    | zero => simp at hb
    | succ b =>
      unfold runesN
      rw [if_pos (by omega), decode_enc s pre _ r hv h']
      have ih := runesN_enc l (fun x hx => hl x (by simp [hx])) s (pre ++ (Utf8.encode r).data.toList) b (by rw [h']; simp) (by simp at hb; omega)
      simp only [List.length_append] at ih
      simp only
      rw [ih]
      simp
      omega

theorem encL_len : ∀ l : List Int, l.length ≤ (encL l).length
  | [] => by simp
  | r :: l => by
    have := encL_len l
    have := enc_pos r
    simp only [encL, List.flatMap_cons, List.length_append, List.length_cons] at *
    omega

/-- DECODING WHAT WAS ENCODED GIVES IT BACK. -/
theorem runesL_bytes (l : List Int) (h : ∀ r ∈ l, Utf8.valid r = true) : runesL (runesBytes l) = l := by
  unfold runesL
  have e := runesBytes_list l
  exact runesN_enc l h (runesBytes l) [] _ (by simpa using e) (by rw [size_list, e]; exact encL_len l)

end Go.Proofs.Ybulkalhe
