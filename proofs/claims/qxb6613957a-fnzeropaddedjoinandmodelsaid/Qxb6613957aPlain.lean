/-
  THE PLAIN PART of the seat b6613957a: what zeroPadded says of a string's bytes. Nothing of the dump is imported.
-/
import Derived.Lib.Strings
namespace Go.Proofs.Qxb6613957a.Plain

/-- Does the text open with a minus sign? -/
def minusL : List UInt8 → Bool
  | [] => false
  | c :: _ => c == 45
/-- Does the text open with a zero that something follows? -/
def padL : List UInt8 → Bool
  | c :: _ :: _ => c == 48
  | _ => false
def minus (s : ByteArray) : Bool := minusL s.data.toList
/-- The text without one leading minus sign. -/
def cut (s : ByteArray) : ByteArray := if minus s = true then s.extract 1 s.size else s
def pad (s : ByteArray) : Bool := padL s.data.toList
/-- What zeroPadded answers. -/
def zp (s : ByteArray) : Bool := pad (cut s)

theorem getElem_list (s : ByteArray) (i : Nat) (h : i < s.size) : s.data.toList[i]? = some s[i] := by
  have h' : i < s.data.toList.length := by rw [← Lib.size_eq]; exact h
  rw [List.getElem?_eq_getElem h']
  rfl
theorem u8_eq (c : UInt8) (n : Nat) (hn : n < 256) : (((c.toNat : Int) == (n : Int)) : Bool) = (c == UInt8.ofNat n) := by
  rw [Bool.eq_iff_iff]
  simp only [beq_iff_eq]
  constructor
  · intro h
    apply UInt8.toNat_inj.1
    rw [UInt8.toNat_ofNat']
    omega
  · intro h
    rw [h, UInt8.toNat_ofNat']
    omega

theorem minus_at (s : ByteArray) (h : 0 < s.size) : minus s = ((s[0].toNat : Int) == 45) := by
  have e := getElem_list s 0 h
  unfold minus
  have u := u8_eq s[0] 45 (by decide)
  cases hl : s.data.toList with
  | nil => rw [hl] at e; simp at e
  | cons c r =>
    rw [hl] at e
    simp at e
    rw [← e] at u
    rw [← e]
    exact u.symm
theorem minus_none (s : ByteArray) (h : s.size = 0) : minus s = false := by
  unfold minus
  cases hl : s.data.toList with
  | nil => rfl
  | cons c r => rw [Lib.size_eq, hl] at h; simp at h
theorem minus_take (s : ByteArray) (h : 1 ≤ s.size) : ((s.extract 0 1).toList == [45]) = minus s := by
  rw [Lib.extract_toList]
  unfold minus
  cases hl : s.data.toList with
  | nil => rw [Lib.size_eq, hl] at h; simp at h
  | cons c r => simp [minusL]
theorem cut_hit (s : ByteArray) (h : minus s = true) : s.extract 1 s.size = cut s := by
  unfold cut
  rw [if_pos h]
theorem cut_miss (s : ByteArray) (h : minus s = false) : s = cut s := by
  unfold cut
  rw [h, if_neg (by decide)]
theorem cut_size (s : ByteArray) : (cut s).size ≤ s.size := by
  unfold cut
  split
  · rw [ByteArray.size_extract]
    omega
  · exact Nat.le_refl _

theorem pad_short (s : ByteArray) (h : s.size ≤ 1) : pad s = false := by
  unfold pad
  rw [Lib.size_eq] at h
  cases hl : s.data.toList with
  | nil => rfl
  | cons c r =>
    cases r with
    | nil => rfl
    | cons d r => rw [hl] at h; simp at h
theorem pad_at (s : ByteArray) (h : 1 < s.size) : pad s = ((s[0].toNat : Int) == 48) := by
  have e := getElem_list s 0 (by omega)
  have u := u8_eq s[0] 48 (by decide)
  unfold pad
  rw [Lib.size_eq] at h
  cases hl : s.data.toList with
  | nil => rw [hl] at h; simp at h
  | cons c r =>
    cases r with
    | nil => rw [hl] at h; simp at h
    | cons d r =>
      rw [hl] at e
      simp at e
      rw [← e] at u
      rw [← e]
      exact u.symm

theorem data_append (s t : ByteArray) : (s ++ t).data.toList = s.data.toList ++ t.data.toList := by
  simp

/-! ### The cut of a longer text -/
theorem cut_data (s : ByteArray) : (cut s).data.toList = if minus s = true then s.data.toList.drop 1 else s.data.toList := by
  unfold cut
  split
  · rw [Lib.extract_data, List.take_of_length_le]
    rw [List.length_drop, Lib.size_eq]
    exact Nat.le_refl _
  · rfl
theorem pad_cut (s : ByteArray) : zp s = padL (if minus s = true then s.data.toList.drop 1 else s.data.toList) := by
  unfold zp pad
  rw [cut_data]

/-- A minus sign put in front is what is cut. -/
theorem zp_signed (s : ByteArray) : zp (⟨#[45]⟩ ++ s) = pad s := by
  have hd : ((⟨#[45]⟩ : ByteArray) ++ s).data.toList = 45 :: s.data.toList := by rw [data_append]; rfl
  have hm : minus (⟨#[45]⟩ ++ s) = true := by unfold minus; rw [hd]; rfl
  rw [pad_cut, if_pos hm, hd]
  rfl
theorem zp_unsigned (s : ByteArray) (h : minus s = false) : zp s = pad s := by
  rw [pad_cut, h, if_neg (by decide)]
  rfl
theorem pad_minus (s : ByteArray) (h : minus s = true) : pad s = false := by
  unfold minus at h
  unfold pad
  cases hl : s.data.toList with
  | nil => rfl
  | cons c r =>
    rw [hl] at h
    simp only [minusL, beq_iff_eq] at h
    subst h
    cases r <;> rfl
theorem pad_zero (s : ByteArray) : padL (48 :: s.data.toList) = decide (0 < s.size) := by
  rw [Lib.size_eq]
  cases s.data.toList with
  | nil => rfl
  | cons c r => simp [padL]
theorem zp_zero (s : ByteArray) : zp (⟨#[48]⟩ ++ s) = decide (0 < s.size) := by
  have hd : ((⟨#[48]⟩ : ByteArray) ++ s).data.toList = 48 :: s.data.toList := by rw [data_append]; rfl
  have hm : minus (⟨#[48]⟩ ++ s) = false := by unfold minus; rw [hd]; rfl
  rw [pad_cut, hm, if_neg (by decide), hd]
  exact pad_zero s
theorem zp_minus_zero (s : ByteArray) : zp (⟨#[45, 48]⟩ ++ s) = decide (0 < s.size) := by
  have hd : ((⟨#[45, 48]⟩ : ByteArray) ++ s).data.toList = 45 :: 48 :: s.data.toList := by rw [data_append]; rfl
  have hm : minus (⟨#[45, 48]⟩ ++ s) = true := by unfold minus; rw [hd]; rfl
  rw [pad_cut, if_pos hm, hd]
  exact pad_zero s

/-! ### A text that is extended -/
theorem padL_append (l t : List UInt8) (h : l ≠ []) : padL (l ++ t) = (padL l || (l == [48] && !t.isEmpty)) := by
  cases l with
  | nil => exact absurd rfl h
  | cons c r =>
    cases r with
    | nil =>
      cases t with
      | nil => simp [padL]
      | cons d t => simp [padL]
    | cons d r => simp [padL]
theorem zp_append (s t : ByteArray) (h : 0 < (cut s).size) : zp (s ++ t) = (zp s || ((cut s).toList == [48] && decide (0 < t.size))) := by
  have hne : (cut s).data.toList ≠ [] := by
    intro e
    rw [Lib.size_eq, e] at h
    simp at h
  have hs : s.data.toList ≠ [] := by
    intro e
    rw [cut_data, e] at hne
    simp at hne
  have hm : minus (s ++ t) = minus s := by
    unfold minus
    rw [data_append]
    cases hl : s.data.toList with
    | nil => exact absurd hl hs
    | cons c r => rfl
  have hd : (cut (s ++ t)).data.toList = (cut s).data.toList ++ t.data.toList := by
    rw [cut_data, cut_data, hm, data_append]
    split
    · cases hl : s.data.toList with
      | nil => exact absurd hl hs
      | cons c r => rfl
    · rfl
  unfold zp pad
  rw [hd, padL_append _ _ hne, Lib.toList_data, Lib.size_eq]
  congr 2
  cases t.data.toList <;> simp

/-! ### What is left behind the leading zeros -/
/-- r is no longer than u, and shorter exactly where u is padded. -/
def Behind (u r : ByteArray) : Prop := r.size ≤ u.size ∧ (r.size < u.size ↔ pad u = true)
theorem Behind.padded {u r : ByteArray} (h : Behind u r) (hp : pad u = true) : r.size < u.size := h.2.2 hp
theorem Behind.whole {u r : ByteArray} (h : Behind u r) (hp : pad u = false) : r.size = u.size := by
  have h1 := h.1
  by_cases hl : r.size < u.size
  · rw [h.2.1 hl] at hp
    cases hp
  · omega
theorem drop_end (u : ByteArray) (k : Nat) (hp : 0 < k → pad u = true ∧ k < u.size) (h0 : k = 0 → pad u = false) : Behind u (u.extract k u.size) := by
  unfold Behind
  rw [ByteArray.size_extract]
  by_cases h : k = 0
  · rw [h0 h]
    simp
    omega
  · have := hp (by omega)
    rw [this.1]
    simp
    omega
theorem drop_stop (u : ByteArray) (k : Nat) (hk : k < u.size) (h1 : 1 < u.size) (hz : ((u[k].toNat : Int) == 48) = false) : k = 0 → pad u = false := by
  intro h
  subst h
  rw [pad_at u h1, hz]
theorem drop_go (u : ByteArray) (k : Nat) (hk : k < u.size) (h1 : 1 < u.size) (hz : ((u[k].toNat : Int) == 48) = true) (hp : 0 < k → pad u = true ∧ k < u.size) : pad u = true := by
  by_cases h : k = 0
  · subst h
    rw [pad_at u h1, hz]
  · exact (hp (by omega)).1
end Go.Proofs.Qxb6613957a.Plain
