/- The plain side of the law on allDigits. -/
import Derived.Below
import Derived.Laws.Strings2
namespace Go.Proofs.Qxb6602958a

/-- One or more bytes, each of them a digit? -/
def adB (s : ByteArray) : Bool := !s.data.toList.isEmpty && s.data.toList.all fun c => decide (48 ≤ c.toNat ∧ c.toNat ≤ 57)

theorem get_list (s : ByteArray) (k : Nat) (h : k < s.size) : s.data.toList[k]'(by simpa using h) = s[k] := rfl

theorem toList_list (s : ByteArray) : s.toList = s.data.toList := ByteArray.toList_eq s

theorem ext_list {a b : ByteArray} (h : a.data.toList = b.data.toList) : a = b := by
  obtain ⟨⟨x⟩⟩ := a
  obtain ⟨⟨y⟩⟩ := b
  simp at h
  rw [h]

theorem empty_of (a : ByteArray) (h : a.toList.isEmpty = true) : a = ⟨#[]⟩ := by
  rw [toList_list, List.isEmpty_iff] at h
  exact ext_list h

theorem app_list (p c : ByteArray) : (p ++ c).data.toList = p.data.toList ++ c.data.toList := by
  simp

theorem ad_miss (s : ByteArray) (k : Nat) (h : k < s.size) (hc : (s[k].toNat : Int) < 48 ∨ 57 < (s[k].toNat : Int)) : adB s = false := by
  unfold adB
  rw [Bool.and_eq_false_iff]
  right
  rw [← Bool.not_eq_true, List.all_eq_true]
  intro ha
  have := ha _ (List.getElem_mem (l := s.data.toList) (by simpa using h))
  rw [get_list s k h, decide_eq_true_eq] at this
  omega

theorem ad_all (s : ByteArray) (hne : s.toList.isEmpty = false) (h : ∀ j (h : j < s.size), 48 ≤ (s[j].toNat : Int) ∧ (s[j].toNat : Int) ≤ 57) : adB s = true := by
  unfold adB
  rw [Bool.and_eq_true, List.all_eq_true]
  refine ⟨by rw [← toList_list, hne]; rfl, fun c hc => ?_⟩
  obtain ⟨j, hj, e⟩ := List.mem_iff_getElem.1 hc
  have hj' : j < s.size := by simpa using hj
  rw [get_list s j hj'] at e
  have := h j hj'
  rw [e] at this
  rw [decide_eq_true_eq]
  omega

theorem ad_front (x : UInt8) (t : ByteArray) (h : ¬ (48 ≤ x.toNat ∧ x.toNat ≤ 57)) : adB (⟨#[x]⟩ ++ t) = false := by
  unfold adB
  rw [app_list]
  simp [h]

theorem ad_point (t : ByteArray) : adB (t ++ ⟨#[46, 53]⟩) = false := by
  unfold adB
  rw [app_list]
  simp

end Go.Proofs.Qxb6602958a
