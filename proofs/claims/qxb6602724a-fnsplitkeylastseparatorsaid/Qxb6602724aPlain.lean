/- The plain side of the three laws on splitKey: no Go in sight. -/
import Derived.Below
import Derived.Laws.Strings2
namespace Go.Proofs.Qxb6602724a

/-- Does the separator (byte 32) stand among the bytes? -/
def hasSepB (s : ByteArray) : Bool := s.data.toList.contains 32

/-- Do the bytes of p open those of s? -/
def prefB (s p : ByteArray) : Bool := p.data.toList.isPrefixOf s.data.toList

/-- i is the last place of the separator in s; -1 where there is none. -/
def LastAt (s : ByteArray) (i : Int) : Prop :=
  (i = -1 ∧ ∀ j (h : j < s.size), ((s[j]).toNat : Int) ≠ 32) ∨
  ∃ (k : Nat) (h : k < s.size), i = k ∧ ((s[k]).toNat : Int) = 32 ∧ ∀ j (h : j < s.size), k < j → ((s[j]).toNat : Int) ≠ 32

/-- What splitKey answers. -/
def Split (s p c : ByteArray) : Prop :=
  (hasSepB s = false ∧ p = ⟨#[]⟩ ∧ c = s) ∨
  (s.data.toList = p.data.toList ++ 32 :: c.data.toList ∧ hasSepB c = false ∧ p.size + 1 + c.size = s.size)

theorem size_list (s : ByteArray) : s.data.toList.length = s.size := by simp

theorem get_list (s : ByteArray) (k : Nat) (h : k < s.size) : s.data.toList[k]'(by simpa using h) = s[k] := rfl

theorem byte_ne {c : UInt8} : ((c.toNat : Int) ≠ 32) ↔ c ≠ 32 := by
  constructor
  · intro h e; subst e; exact h rfl
  · intro h e
    apply h
    apply UInt8.toNat_inj.1
    show c.toNat = 32
    omega

theorem noSep_of (s : ByteArray) (h : ∀ j (h : j < s.size), ((s[j]).toNat : Int) ≠ 32) : hasSepB s = false := by
  unfold hasSepB
  rw [← Bool.not_eq_true, List.contains_iff_mem]
  intro hm
  obtain ⟨j, hj, e⟩ := List.mem_iff_getElem.1 hm
  have hj' : j < s.size := by simpa using hj
  exact byte_ne.1 (h j hj') ((get_list s j hj').symm.trans e)

theorem sep_of (s : ByteArray) (k : Nat) (h : k < s.size) (e : ((s[k]).toNat : Int) = 32) : hasSepB s = true := by
  unfold hasSepB
  rw [List.contains_iff_mem]
  have e' : s[k] = 32 := Decidable.byContradiction fun hn => byte_ne.2 hn e
  rw [← e']
  exact List.getElem_mem (l := s.data.toList) (by simpa using h)

theorem ext_list {a b : ByteArray} (h : a.data.toList = b.data.toList) : a = b := by
  obtain ⟨⟨x⟩⟩ := a
  obtain ⟨⟨y⟩⟩ := b
  simp at h
  rw [h]

theorem extract_list (s : ByteArray) (a b : Nat) : (s.extract a b).data.toList = (s.data.toList.drop a).take (b - a) := by
  obtain ⟨⟨l⟩⟩ := s
  rw [ByteArray.extract_mk]

theorem split_none (s : ByteArray) (h : ∀ j (h : j < s.size), ((s[j]).toNat : Int) ≠ 32) : Split s ⟨#[]⟩ s :=
  .inl ⟨noSep_of s h, rfl, rfl⟩

theorem split_at (s : ByteArray) (k : Nat) (h : k < s.size) (e : ((s[k]).toNat : Int) = 32)
    (hn : ∀ j (h : j < s.size), k < j → ((s[j]).toNat : Int) ≠ 32) : Split s (s.extract 0 k) (s.extract (k + 1) s.size) := by
  have hl : k < s.data.toList.length := by simpa using h
  have e' : s.data.toList[k] = 32 := by
    rw [get_list s k h]; exact Decidable.byContradiction fun hn => byte_ne.2 hn e
  have e2 : (s.extract (k + 1) s.size).data.toList = s.data.toList.drop (k + 1) := by
    rw [extract_list, List.take_of_length_le (by simp)]
  refine .inr ⟨?_, ?_, ?_⟩
  · rw [e2, extract_list, List.drop_zero, Nat.sub_zero, ← e', ← List.drop_eq_getElem_cons hl, List.take_append_drop]
  · unfold hasSepB
    rw [e2, ← Bool.not_eq_true, List.contains_iff_mem]
    intro hm
    obtain ⟨j, hj, ej⟩ := List.mem_iff_getElem.1 hm
    rw [List.getElem_drop] at ej
    have hj2 : k + 1 + j < s.size := by simp at hj; omega
    exact byte_ne.1 (hn (k + 1 + j) hj2 (by omega)) ((get_list s _ hj2).symm.trans ej)
  · simp only [ByteArray.size_extract]; omega

theorem pref_long (s p : ByteArray) (h : s.size < p.size) : prefB s p = false := by
  unfold prefB
  rw [← Bool.not_eq_true, List.isPrefixOf_iff_prefix]
  intro hp
  have := hp.length_le
  simp at this
  omega

theorem byte_eq {c d : UInt8} (h : (c.toNat : Int) = (d.toNat : Int)) : c = d := UInt8.toNat_inj.1 (by omega)

theorem pref_miss (s p : ByteArray) (k : Nat) (hp : k < p.size) (hs : k < s.size) (h : ¬ ((s[k]).toNat : Int) = ((p[k]).toNat : Int)) : prefB s p = false := by
  unfold prefB
  rw [← Bool.not_eq_true, List.isPrefixOf_iff_prefix]
  intro hpre
  have hl : k < p.data.toList.length := by simpa using hp
  have e := hpre.getElem hl
  rw [get_list p k hp, get_list s k hs] at e
  exact h (by rw [e])

theorem pref_all (s p : ByteArray) (hle : p.size ≤ s.size) (h : ∀ j (hp : j < p.size) (hs : j < s.size), ((s[j]).toNat : Int) = ((p[j]).toNat : Int)) : prefB s p = true := by
  unfold prefB
  rw [List.isPrefixOf_iff_prefix, List.prefix_iff_eq_take]
  apply List.ext_getElem
  · simp; omega
  · intro j h1 h2
    have hp : j < p.size := by simpa using h1
    have hs : j < s.size := by omega
    rw [List.getElem_take, get_list p j hp, get_list s j hs]
    exact (byte_eq (h j hp hs)).symm

theorem sep_mid (s p c : ByteArray) (h : s.data.toList = p.data.toList ++ 32 :: c.data.toList) : hasSepB s = true := by
  unfold hasSepB
  rw [List.contains_iff_mem, h]
  simp

theorem toList_list (s : ByteArray) : s.toList = s.data.toList := ByteArray.toList_eq s

theorem app_list (p c : ByteArray) : (p ++ c).data.toList = p.data.toList ++ c.data.toList := by
  simp

theorem join_list (p c : ByteArray) : (p ++ ⟨#[32]⟩ ++ c).data.toList = p.data.toList ++ 32 :: c.data.toList := by
  rw [app_list, app_list]; simp

theorem join_eq (s p c : ByteArray) (h : s.data.toList = p.data.toList ++ 32 :: c.data.toList) : ((p ++ ⟨#[32]⟩ ++ c).toList == s.toList) = true := by
  rw [beq_iff_eq, toList_list, toList_list, join_list, h]

theorem last_unique (x : UInt8) (l1 r1 l2 r2 : List UInt8) (h : l1 ++ x :: r1 = l2 ++ x :: r2) (h1 : r1.contains x = false) (h2 : r2.contains x = false) : l1 = l2 ∧ r1 = r2 := by
  have m1 : x ∉ r1 := fun hm => by rw [List.contains_iff_mem.2 hm] at h1; cases h1
  have m2 : x ∉ r2 := fun hm => by rw [List.contains_iff_mem.2 hm] at h2; cases h2
  rcases List.append_eq_append_iff.1 h with ⟨as, e1, e2⟩ | ⟨bs, e1, e2⟩
  · cases as with
    | nil => simp at e1 e2; exact ⟨e1.symm, e2⟩
    | cons y ys =>
      simp at e2
      exact absurd (by rw [e2.2]; simp) m1
  · cases bs with
    | nil => simp at e1 e2; exact ⟨e1, e2.symm⟩
    | cons y ys =>
      simp at e2
      exact absurd (by rw [e2.2]; simp) m2

/-- The split of a bare code is that code, at the root's level. -/
theorem split_code (b p c : ByteArray) (hb : hasSepB b = false) (h : Split b p c) : p = ⟨#[]⟩ ∧ c = b := by
  rcases h with ⟨_, h1, h2⟩ | ⟨h1, _, _⟩
  · exact ⟨h1, h2⟩
  · rw [sep_mid b p c h1] at hb; cases hb

/-- The split of a joined key is what was joined. -/
theorem split_join (a b p c : ByteArray) (hb : hasSepB b = false) (h : Split (a ++ ⟨#[32]⟩ ++ b) p c) : p = a ∧ c = b := by
  rcases h with ⟨h1, _, _⟩ | ⟨h1, h2, _⟩
  · rw [sep_mid _ a b (join_list a b)] at h1; cases h1
  · rw [join_list] at h1
    have := last_unique 32 _ _ _ _ h1.symm h2 hb
    exact ⟨ext_list this.1, ext_list this.2⟩

theorem empty_of (a : ByteArray) (h : a.toList.isEmpty = true) : a = ⟨#[]⟩ := by
  rw [toList_list, List.isEmpty_iff] at h
  exact ext_list h

theorem size_join (a b : ByteArray) : (a ++ ⟨#[32]⟩ ++ b).size = a.size + 1 + b.size := by
  rw [← size_list, join_list]; simp; omega

theorem size_pre (a : ByteArray) : (a ++ ⟨#[32]⟩).size = a.size + 1 := by
  rw [← size_list, app_list]; simp

/-- A key below an ancestor: its parent is the ancestor, or still below it; and it is shorter. -/
theorem split_below (a s p c : ByteArray) (hp : prefB s (a ++ ⟨#[32]⟩) = true) (h : Split s p c) :
    (p = a ∨ prefB p (a ++ ⟨#[32]⟩) = true) ∧ p.size < s.size := by
  unfold prefB at hp
  rw [List.isPrefixOf_iff_prefix, app_list] at hp
  obtain ⟨t, ht⟩ := hp
  have hs : s.data.toList = a.data.toList ++ 32 :: t := by rw [← ht]; simp
  rcases h with ⟨h1, _, _⟩ | ⟨h1, h2, h3⟩
  · rw [sep_mid s a ⟨t.toArray⟩ hs] at h1; cases h1
  · refine ⟨?_, by omega⟩
    have m2 : (32 : UInt8) ∉ c.data.toList := fun hm => by
      unfold hasSepB at h2
      rw [List.contains_iff_mem.2 hm] at h2; cases h2
    rw [hs] at h1
    rcases List.append_eq_append_iff.1 h1 with ⟨as, e1, e2⟩ | ⟨bs, e1, e2⟩
    · cases as with
      | nil => rw [List.append_nil] at e1; exact .inl (ext_list e1)
      | cons y ys =>
        simp at e2
        refine .inr ?_
        unfold prefB
        rw [List.isPrefixOf_iff_prefix, app_list]
        exact ⟨ys, by rw [e1, ← e2.1]; simp⟩
    · cases bs with
      | nil => rw [List.append_nil] at e1; exact .inl (ext_list e1.symm)
      | cons y ys =>
        simp at e2
        exact absurd (by rw [e2.2]; simp) m2

theorem ne_of (p a : ByteArray) (h : ¬ p = a) : (p.toList == a.toList) = false := by
  rw [beq_eq_false_iff_ne, toList_list, toList_list]
  exact fun e => h (ext_list e)

end Go.Proofs.Qxb6602724a
