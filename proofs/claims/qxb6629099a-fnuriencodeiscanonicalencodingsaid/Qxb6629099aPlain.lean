/-
  Plain functions on bytes: what URIEncode writes.
-/
import Derived.Lib.UnsafeStr
namespace Go.Proofs.Qxb6629099a
/-- May the byte c stand bare? -/
def bare (sl : Bool) (c : UInt8) : Bool :=
  decide (65 ≤ c.toNat ∧ c.toNat ≤ 90) || decide (97 ≤ c.toNat ∧ c.toNat ≤ 122) || decide (48 ≤ c.toNat ∧ c.toNat ≤ 57) ||
  decide (c.toNat = 45) || decide (c.toNat = 95) || decide (c.toNat = 46) || decide (c.toNat = 126) || (decide (c.toNat = 47) && !sl)
/-- The upper-case hexadecimal digit of n. -/
def hexd (n : Nat) : UInt8 := if n < 10 then (48 + n).toUInt8 else (55 + n).toUInt8
def enc1 (sl : Bool) (c : UInt8) : List UInt8 := if bare sl c = true then [c] else [37, hexd (c.toNat / 16), hexd (c.toNat % 16)]
def enc (sl : Bool) (l : List UInt8) : List UInt8 := l.flatMap (enc1 sl)
theorem enc_nil (sl : Bool) : enc sl [] = [] := rfl
theorem enc_append (sl : Bool) (a b : List UInt8) : enc sl (a ++ b) = enc sl a ++ enc sl b := by simp [enc]
theorem enc_one (sl : Bool) (c : UInt8) : enc sl [c] = enc1 sl c := by simp [enc]
theorem enc1_le (sl : Bool) (c : UInt8) : (enc1 sl c).length ≤ 3 := by unfold enc1; split <;> simp
theorem enc_le (sl : Bool) (l : List UInt8) : (enc sl l).length ≤ 3 * l.length := by
  induction l with
  | nil => simp [enc]
  | cons c t ih =>
    have := enc1_le sl c
    have e : enc sl (c :: t) = enc1 sl c ++ enc sl t := by simp [enc]
    rw [e]; simp; omega
theorem take_snoc (s : ByteArray) (k : Nat) (h : k < s.size) : s.data.toList.take (k + 1) = s.data.toList.take k ++ [s[k]] := by
  rw [List.take_succ_eq_append_getElem (by simpa using h)]; rfl
theorem enc_take (sl : Bool) (s : ByteArray) (k : Nat) (h : k < s.size) : enc sl (s.data.toList.take (k + 1)) = enc sl (s.data.toList.take k) ++ enc1 sl s[k] := by
  rw [take_snoc s k h, enc_append, enc_one]
/-- The classes of bytes, as ranges: what the switch parts on. -/
theorem classes (sl : Bool) (c : UInt8) :
    (bare sl c = true ∧ ((65 ≤ (c.toNat : Int) ∧ (c.toNat : Int) ≤ 90) ∨ (97 ≤ (c.toNat : Int) ∧ (c.toNat : Int) ≤ 122) ∨ (48 ≤ (c.toNat : Int) ∧ (c.toNat : Int) ≤ 57) ∨
      (45 ≤ (c.toNat : Int) ∧ (c.toNat : Int) ≤ 45) ∨ (95 ≤ (c.toNat : Int) ∧ (c.toNat : Int) ≤ 95) ∨ (46 ≤ (c.toNat : Int) ∧ (c.toNat : Int) ≤ 46) ∨
      (126 ≤ (c.toNat : Int) ∧ (c.toNat : Int) ≤ 126) ∨ ((47 ≤ (c.toNat : Int) ∧ (c.toNat : Int) ≤ 47) ∧ sl = false))) ∨
    (bare sl c = false ∧ ((0 ≤ (c.toNat : Int) ∧ (c.toNat : Int) ≤ 44) ∨ (58 ≤ (c.toNat : Int) ∧ (c.toNat : Int) ≤ 64) ∨ (91 ≤ (c.toNat : Int) ∧ (c.toNat : Int) ≤ 94) ∨
      (96 ≤ (c.toNat : Int) ∧ (c.toNat : Int) ≤ 96) ∨ (123 ≤ (c.toNat : Int) ∧ (c.toNat : Int) ≤ 125) ∨ (127 ≤ (c.toNat : Int) ∧ (c.toNat : Int) ≤ 255) ∨
      ((47 ≤ (c.toNat : Int) ∧ (c.toNat : Int) ≤ 47) ∧ sl = true))) := by
  have hb : c.toNat < 256 := c.toNat_lt
  generalize hn : c.toNat = n at hb
  cases sl <;> simp only [bare, hn, Bool.not_false, Bool.not_true, Bool.and_true, Bool.and_false, Bool.or_eq_true, Bool.or_eq_false_iff, decide_eq_true_eq, decide_eq_false_iff_not, Bool.or_false] <;> simp only [and_true, and_false, or_false, Bool.false_eq_true, reduceCtorEq] <;> omega
/-- The digits' own text. -/
theorem hex_at (n : Nat) (h : n < 16) : ((⟨#[48, 49, 50, 51, 52, 53, 54, 55, 56, 57, 65, 66, 67, 68, 69, 70]⟩ : ByteArray)[n]'(by exact h)) = hexd n := by
  have : ∀ n : Fin 16, ((⟨#[48, 49, 50, 51, 52, 53, 54, 55, 56, 57, 65, 66, 67, 68, 69, 70]⟩ : ByteArray)[n.val]'(n.isLt)) = hexd n.val := by decide
  exact this ⟨n, h⟩
theorem cells_bare (sl : Bool) (s : ByteArray) (k : Nat) (h : k < s.size) (hb : bare sl s[k] = true) :
    Lib.byteCells (enc sl (s.data.toList.take k)) ++ [Value.int .u8 (s[k].toNat : Int)] = Lib.byteCells (enc sl (s.data.toList.take (k + 1))) := by
  rw [enc_take sl s k h, Lib.byteCells_append, enc1, if_pos hb]; rfl
theorem cells_esc (sl : Bool) (s : ByteArray) (k : Nat) (h : k < s.size) (hb : bare sl s[k] = false) (a b : UInt8) (ha : a = hexd (s[k].toNat / 16)) (hb' : b = hexd (s[k].toNat % 16)) :
    ((Lib.byteCells (enc sl (s.data.toList.take k)) ++ [Value.int .u8 37]) ++ [Value.int .u8 (a.toNat : Int)]) ++ [Value.int .u8 (b.toNat : Int)] = Lib.byteCells (enc sl (s.data.toList.take (k + 1))) := by
  rw [enc_take sl s k h, Lib.byteCells_append, enc1, if_neg (by simp [hb]), ha, hb', List.append_assoc, List.append_assoc]; rfl
/-- Every '/' replaced by the three bytes of its escape. -/
def slash1 (c : UInt8) : List UInt8 := if c = 47 then [37, 50, 70] else [c]
def slashTo (l : List UInt8) : List UInt8 := l.flatMap slash1
theorem slashTo_append (a b : List UInt8) : slashTo (a ++ b) = slashTo a ++ slashTo b := by simp [slashTo]
theorem slashTo_le (l : List UInt8) : (slashTo l).length ≤ 3 * l.length := by
  induction l with
  | nil => simp [slashTo]
  | cons c t ih =>
    have h1 : (slash1 c).length ≤ 3 := by unfold slash1; split <;> simp
    have e : slashTo (c :: t) = slash1 c ++ slashTo t := by simp [slashTo]
    rw [e]; simp; omega
theorem slash_yes (t : ByteArray) (k : Nat) (h : k < t.size) (hc : t[k] = 47) : slashTo (t.data.toList.take (k + 1)) = slashTo (t.data.toList.take k) ++ [37] ++ [50] ++ [70] := by
  rw [take_snoc t k h, slashTo_append, hc]; simp [slashTo, slash1]
theorem slash_no (t : ByteArray) (k : Nat) (h : k < t.size) (hc : ¬ t[k] = 47) : slashTo (t.data.toList.take (k + 1)) = slashTo (t.data.toList.take k) ++ [t[k]] := by
  rw [take_snoc t k h, slashTo_append]; simp [slashTo, slash1, hc]
/-- The '/' bytes of the loose text, escaped: the strict text. -/
theorem slash_enc1 (c : UInt8) : slashTo (enc1 false c) = enc1 true c := by
  have : ∀ n : Fin 256, slashTo (enc1 false (UInt8.ofFin n)) = enc1 true (UInt8.ofFin n) := by decide +kernel
  simpa using this c.toFin
theorem slash_enc (l : List UInt8) : slashTo (enc false l) = enc true l := by
  induction l with
  | nil => rfl
  | cons c t ih =>
    have e : ∀ sl, enc sl (c :: t) = enc1 sl c ++ enc sl t := fun sl => by simp [enc]
    rw [e, e, slashTo_append, ih, slash_enc1]
/-- How many '%' a text holds. -/
def pct (l : List UInt8) : Nat := (l.filter fun c => c == 37).length
theorem pct_append (a b : List UInt8) : pct (a ++ b) = pct a + pct b := by simp [pct]
theorem pct_le (l : List UInt8) : pct l ≤ l.length := List.length_filter_le _ _
theorem pct_enc1 (sl : Bool) (c : UInt8) : (enc1 sl c).length = 1 + 2 * pct (enc1 sl c) := by
  have : ∀ sl : Bool, ∀ n : Fin 256, (enc1 sl (UInt8.ofFin n)).length = 1 + 2 * pct (enc1 sl (UInt8.ofFin n)) := by decide +kernel
  simpa using this sl c.toFin
theorem pct_enc (sl : Bool) (l : List UInt8) : (enc sl l).length = l.length + 2 * pct (enc sl l) := by
  induction l with
  | nil => rfl
  | cons c t ih =>
    have e : enc sl (c :: t) = enc1 sl c ++ enc sl t := by simp [enc]
    have := pct_enc1 sl c
    rw [e, pct_append]; simp; omega
theorem pct_take (s : ByteArray) (k : Nat) (h : k < s.size) : pct (s.data.toList.take (k + 1)) = pct (s.data.toList.take k) + if s[k] = 37 then 1 else 0 := by
  rw [take_snoc s k h, pct_append]
  by_cases hc : s[k] = 37 <;> simp [pct, hc]
/-- The whole answer, as a string. -/
def encB (sl : Bool) (s : ByteArray) : ByteArray := ⟨(enc sl s.data.toList).toArray⟩
theorem encB_data (sl : Bool) (s : ByteArray) : (encB sl s).data.toList = enc sl s.data.toList := rfl
theorem encB_size (sl : Bool) (s : ByteArray) : (encB sl s).size = (enc sl s.data.toList).length := by simp [encB, ByteArray.size]
theorem encB_le (sl : Bool) (s : ByteArray) : (encB sl s).size ≤ 3 * s.size := by
  rw [encB_size]
  have := enc_le sl s.data.toList
  simpa using this
def slashB (s : ByteArray) : ByteArray := ⟨(slashTo s.data.toList).toArray⟩
theorem encB_append (sl : Bool) (a b : ByteArray) : encB sl (a ++ b) = encB sl a ++ encB sl b := by
  apply ByteArray.ext
  apply Array.toList_inj.1
  simp only [ByteArray.data_append, Array.toList_append, encB_data, enc_append]
theorem encB_slash (s : ByteArray) : encB true s = slashB (encB false s) := by
  apply ByteArray.ext
  apply Array.toList_inj.1
  show enc true s.data.toList = slashTo (enc false s.data.toList)
  rw [slash_enc]
theorem encB_pct (sl : Bool) (s : ByteArray) : (encB sl s).size = s.size + 2 * pct (encB sl s).data.toList := by
  rw [encB_size, encB_data]
  have := pct_enc sl s.data.toList
  simpa using this
end Go.Proofs.Qxb6629099a
