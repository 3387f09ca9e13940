import Derived.Test.Qxb6628266aRows
import Derived.WalkKit
import Derived.WalkSpells
import Derived.WalkLawsBesides
import Derived.Lib.Strings
namespace Go.Proofs.Qxb6628266a
open Go.RowKit

theorem data_app (a b : ByteArray) : (a ++ b).data.toList = a.data.toList ++ b.data.toList := by
  simp [ByteArray.data_append]

theorem size_len (s : ByteArray) : s.data.toList.length = s.size := by simp

/-- Every byte is a visible ASCII character. -/
def visB (s : ByteArray) : Bool := s.data.toList.all (fun c => decide (33 ≤ c.toNat) && decide (c.toNat ≤ 126))

theorem visB_iff (s : ByteArray) : visB s = true ↔ ∀ (j : Nat) (h : j < s.size), 33 ≤ s[j].toNat ∧ s[j].toNat ≤ 126 := by
  unfold visB
  rw [List.all_eq_true]
  constructor
  · intro h j hj
    have hm : s[j] ∈ s.data.toList := by
      have : s[j] = s.data.toList[j]'(by simpa using hj) := by simp; rfl
      rw [this]
      exact List.getElem_mem _
    simpa using h _ hm
  · intro h c hc
    obtain ⟨j, hj, rfl⟩ := List.getElem_of_mem hc
    have hj' : j < s.size := by simpa using hj
    have := h j hj'
    have e : s.data.toList[j] = s[j] := by simp; rfl
    rw [e]
    simpa using this

theorem visB_app (a b : ByteArray) : visB (a ++ b) = (visB a && visB b) := by simp [visB, List.all_append]

theorem at_get {s : ByteArray} {j : Nat} (h : j < s.size) : s.data.toList[j]? = some s[j] := by
  rw [List.getElem?_eq_getElem (by simpa using h)]; simp; rfl

/-- It opens with '<'; it closes with '>'. -/
def prefB (s : ByteArray) : Bool := s.data.toList[0]? == some 60
def sufB (s : ByteArray) : Bool := s.data.toList[s.size - 1]? == some 62
def brB (s : ByteArray) : Bool := prefB s && sufB s

theorem take_one (l : List UInt8) (x : UInt8) : (l.take 1 == [x]) = (l[0]? == some x) := by cases l <;> simp

theorem pref_ext (s : ByteArray) : ((s.extract 0 1).toList == [60]) = prefB s := by
  rw [Lib.extract_toList, prefB, ← take_one]; rfl

theorem suf_ext (s : ByteArray) (h : 1 ≤ s.size) : ((s.extract (s.size - 1) s.size).toList == [62]) = sufB s := by
  rw [Lib.extract_toList, show s.size - (s.size - 1) = 1 by omega, take_one, sufB, List.getElem?_drop]; rfl

theorem pref_empty {s : ByteArray} (h : s.size < 1) : prefB s = false := by
  rw [prefB, List.getElem?_eq_none (by rw [size_len]; omega)]; rfl
theorem suf_empty {s : ByteArray} (h : s.size < 1) : sufB s = false := by
  rw [sufB, List.getElem?_eq_none (by rw [size_len]; omega)]; rfl

theorem u8_eq (c : UInt8) (n : Nat) (h : n < 256) : (some c == some (UInt8.ofNat n)) = decide (c.toNat = n) := by
  rw [Bool.eq_iff_iff]
  simp [← UInt8.toNat_inj, Nat.mod_eq_of_lt h]

theorem pref_get {s : ByteArray} (h : 0 < s.size) : prefB s = decide (s[0].toNat = 60) := by
  rw [prefB, at_get h]; exact u8_eq s[0] 60 (by omega)
theorem suf_get {s : ByteArray} (h : s.size - 1 < s.size) : sufB s = decide (s[s.size - 1].toNat = 62) := by
  rw [sufB, at_get h]; exact u8_eq s[s.size - 1] 62 (by omega)

/-- One byte is not both. -/
theorem br_small {s : ByteArray} (h : s.size < 2) : brB s = false := by
  by_cases h0 : s.size < 1
  · simp [brB, pref_empty h0]
  · have h1 : s.size = 1 := by omega
    have h2 : 0 < s.size := by omega
    rw [brB, prefB, sufB, h1, at_get h2]
    rw [show (60 : UInt8) = UInt8.ofNat 60 from rfl, show (62 : UInt8) = UInt8.ofNat 62 from rfl, u8_eq _ 60 (by omega), u8_eq _ 62 (by omega)]
    rw [Bool.and_eq_false_iff]
    simp
    omega

/-- The brackets put on. -/
def brack (s : ByteArray) : ByteArray := ⟨#[60]⟩ ++ s ++ ⟨#[62]⟩
theorem brack_data (s : ByteArray) : (brack s).data.toList = 60 :: (s.data.toList ++ [62]) := by simp [brack]
theorem brack_size (s : ByteArray) : (brack s).size = s.size + 2 := by rw [← size_len, brack_data]; simp
theorem brack_br (s : ByteArray) : brB (brack s) = true := by
  rw [brB, prefB, sufB, brack_size, brack_data]
  simp
theorem brack_vis (s : ByteArray) : visB (brack s) = visB s := by
  rw [brack, visB_app, visB_app]
  have e1 : visB ⟨#[60]⟩ = true := by decide
  have e2 : visB ⟨#[62]⟩ = true := by decide
  rw [e1, e2]
  simp

/-- msgID's own form of an id. -/
def form (s : ByteArray) : ByteArray := if brB s then s else brack s
theorem form_br (s : ByteArray) : brB (form s) = true := by
  unfold form
  cases h : brB s
  · simp [brack_br]
  · simp [h]
theorem form_form (s : ByteArray) : form (form s) = form s := by
  rw [form, form_br]; simp
theorem form_vis (s : ByteArray) : visB (form s) = visB s := by
  unfold form
  cases h : brB s
  · simp [brack_vis]
  · simp
theorem form_of_br {s : ByteArray} (h : brB s = true) : form s = s := by simp [form, h]
theorem form_of_not {s : ByteArray} (h : brB s = false) : form s = brack s := by simp [form, h]
theorem form_size (s : ByteArray) : (form s).size ≤ s.size + 2 := by
  unfold form
  cases h : brB s
  · simp [brack_size]
  · simp

/-- msgID's second answer, of the form. -/
def okB (u : ByteArray) : Bool := !(u.toList == [60, 62]) && decide ((u.size : Int) ≤ 986)

/-- What msgID gives, of the form u of its argument. -/
def MsgPost (u : ByteArray) (e : Ending) : Prop :=
  (visB u = true ∧ e = .returned (.tuple #[.string u, .bool (okB u)])) ∨ (visB u = false ∧ e = .returned (.tuple #[.string ⟨#[]⟩, .bool false]))

end Go.Proofs.Qxb6628266a
