/- Plain laws of the joined texts of FnNumbers. -/
import Derived.Test.YtfnncdngfggcjaaGreatDoorW28
namespace Go.Proofs.YtfnncdngfggcjaaGreatDoor

/-- A sign that a text of FnNumbers may bear. -/
def okc (c : UInt8) : Bool := decide (c.toNat < 128) && decide (c.toNat ≠ 92) && decide (c.toNat ≠ 37) && decide (c.toNat ≠ 44) && !Lib.isSp c
theorem okc_letters : ∀ n : Fin 256, (signB 1 (n.val : Int) = true) → okc (UInt8.ofNat n.val) = true := by decide +kernel
theorem okc_sign {i : Nat} {c : UInt8} (h : signB i (c.toNat : Int) = true) : okc c = true := by
  have h1 : signB 1 (c.toNat : Int) = true := by
    unfold signB at *
    simp only [Bool.or_eq_true, Bool.and_eq_true] at *
    rcases h with h | ⟨_, h⟩
    · exact .inl h
    · exact .inr ⟨by decide, h⟩
  have h2 := okc_letters ⟨c.toNat, c.toNat_lt⟩ h1
  simpa using h2
theorem okc_digits : ∀ n : Fin 256, (48 ≤ n.val ∧ n.val ≤ 57) → okc (UInt8.ofNat n.val) = true := by decide +kernel
theorem okc_digit {c : UInt8} (h : 48 ≤ c.toNat ∧ c.toNat ≤ 57) : okc c = true := by
  have h2 := okc_digits ⟨c.toNat, c.toNat_lt⟩ h
  simpa using h2
theorem okc_figs (n : Int) : ∀ c ∈ figs n, okc c = true := by
  intro c hc
  unfold figs at hc
  split at hc
  · rcases List.mem_cons.1 hc with rfl | hc
    · decide
    · exact okc_digit (figsN_digit _ c hc)
  · exact okc_digit (figsN_digit _ c hc)
theorem figs_ne (n : Int) : figs n ≠ [] := by
  unfold figs
  split
  · exact List.cons_ne_nil _ _
  · exact figsN_ne _
theorem figs_len (n : Int) (h0 : -1000000 ≤ n) (h1 : n ≤ 1000000) : (figs n).length ≤ 8 := by
  unfold figs
  split
  · have := figsN_len6 (-n).toNat (by omega)
    simp; omega
  · have := figsN_len6 n.toNat (by omega)
    omega

/-- The texts of FnNumbers: the figures of z, but the word at k. -/
def textsF (z : Nat → Int) (word : ByteArray) (k : Int) (j : Nat) : ByteArray := if (j : Int) = k then word else ⟨(figs (z j)).toArray⟩
/-- The numbers of FnNumbers: z, but 0 at k. -/
def numsF (z : Nat → Int) (k : Int) (j : Nat) : Int := if (j : Int) = k then 0 else z j

theorem name_okc {word : ByteArray} (h : NameOk word) : ∀ c ∈ word.data.toList, okc c = true := by
  intro c hc
  obtain ⟨i, hi, rfl⟩ := List.mem_iff_getElem.1 hc
  exact okc_sign (h.2.2 i hi)

theorem texts_okc (z : Nat → Int) (word : ByteArray) (k : Int) (h : NameOk word) (j : Nat) : (textsF z word k j).data.toList ≠ [] ∧ ∀ c ∈ (textsF z word k j).data.toList, okc c = true := by
  unfold textsF
  split
  · refine ⟨fun e => ?_, name_okc h⟩
    have h1 := h.1
    have h2 : word.size = 0 := by
      show word.data.toList.length = 0
      rw [e]
      rfl
    omega
  · exact ⟨figs_ne _, okc_figs _⟩
theorem texts_size (z : Nat → Int) (word : ByteArray) (k : Int) (h : NameOk word) (j : Nat) (hz : -1000000 ≤ z j ∧ z j ≤ 1000000) : (textsF z word k j).size ≤ 30 := by
  unfold textsF
  split
  · exact h.2.1
  · have := figs_len (z j) hz.1 hz.2
    show (figs (z j)).length ≤ 30
    omega
theorem joinL_okc (f : Nat → List UInt8) (hf : ∀ j, ∀ c ∈ f j, okc c = true) : ∀ n, ∀ c ∈ joinL f n, okc c = true ∨ c = 44
  | 0, c, hc => by simp [joinL] at hc
  | n + 1, c, hc => by
    unfold joinL at hc
    rcases List.mem_append.1 hc with h | h
    · split at h
      · exact joinL_okc f hf n c h
      · rcases List.mem_append.1 h with h | h
        · exact joinL_okc f hf n c h
        · exact .inr (by simpa using h)
    · exact .inl (hf n c h)

/-- The joined text is one that is divided at its commas. -/
theorem joined_plain (z : Nat → Int) (word : ByteArray) (k : Int) (n : Nat) (h : NameOk word) (hn1 : 1 ≤ n) (hn : n ≤ 10) (hz : ∀ j, j < n → -1000000 ≤ z j ∧ z j ≤ 1000000) :
    Plain1 (joinN ⟨#[44]⟩ (textsF z word k) n) := by
  have hall : ∀ i (hi : i < (joinN ⟨#[44]⟩ (textsF z word k) n).size), okc (joinN ⟨#[44]⟩ (textsF z word k) n)[i] = true ∨ (joinN ⟨#[44]⟩ (textsF z word k) n)[i] = 44 := by
    intro i hi
    have hm : (joinN ⟨#[44]⟩ (textsF z word k) n)[i] ∈ (joinN ⟨#[44]⟩ (textsF z word k) n).data.toList := List.getElem_mem (l := (joinN ⟨#[44]⟩ (textsF z word k) n).data.toList) hi
    have hx := joinL_okc (fun j => (textsF z word k j).data.toList) (fun j => (texts_okc z word k h j).2) n _ (by rw [← joinN_list]; exact hm)
    exact hx
  have hpos : 1 ≤ (joinN ⟨#[44]⟩ (textsF z word k) n).size := by
    obtain ⟨m, rfl⟩ : ∃ m, n = m + 1 := ⟨n - 1, by omega⟩
    have h1 := (texts_okc z word k h m).1
    have h2 : 1 ≤ (textsF z word k m).size := by
      show 1 ≤ (textsF z word k m).data.toList.length
      exact List.length_pos_iff.2 h1
    unfold joinN
    rw [ByteArray.size_append]
    omega
  have hlen := joinN_size ⟨#[44]⟩ (textsF z word k) (by decide) n (fun j hj => texts_size z word k h j (hz j hj)) n (Nat.le_refl _)
  refine ⟨hpos, by omega, fun i hi => ?_, fun i hi => ?_, fun i hi => ?_⟩
  all_goals
    rcases hall i hi with h' | h'
    · unfold okc at h'
      simp only [Bool.and_eq_true, decide_eq_true_eq] at h'
      omega
    · rw [h']
      decide

/-- Its parts are the texts. -/
theorem joined_parts (z : Nat → Int) (word : ByteArray) (k : Int) (n : Nat) (h : NameOk word) (hn1 : 1 ≤ n) :
    (splitC (joinN ⟨#[44]⟩ (textsF z word k) n).data.toList []).map Lib.trimSpace = (List.range n).map fun j => (textsF z word k j).data.toList := by
  have hc : ∀ j c, c ∈ (textsF z word k j).data.toList → c ≠ 44 ∧ Lib.isSp c = false := by
    intro j c hm
    have h' := (texts_okc z word k h j).2 c hm
    unfold okc at h'
    simp only [Bool.and_eq_true, decide_eq_true_eq, Bool.not_eq_true'] at h'
    refine ⟨fun e => ?_, h'.2⟩
    subst e
    exact absurd rfl h'.1.2
  rw [joinN_list, (joinL_split (fun j => (textsF z word k j).data.toList) n (fun j _ => ⟨(texts_okc z word k h j).1, fun c hm => (hc j c hm).1⟩) n hn1 (Nat.le_refl _)).2, List.map_map]
  refine List.map_congr_left fun j _ => ?_
  exact trim_none _ (fun c hm => (hc j c hm).2)

/-- Each text is read as its number. -/
theorem texts_readable (z : Nat → Int) (word : ByteArray) (k : Int) (h : NameOk word) (h57 : ∀ h' : 0 < word.size, 57 < word[0].toNat) (j : Nat) (hz : -1000000 ≤ z j ∧ z j ≤ 1000000) : Readable (textsF z word k j) (numsF z k j) := by
  unfold textsF numsF
  split
  · refine .inr ⟨rfl, h.1, h.2.1, ?_⟩
    have h1 := h.2.2 0 h.1
    have h2 := h57 h.1
    unfold signB isLetB at h1
    simp at h1
    unfold LetC
    omega
  · exact .inl ⟨rfl, hz⟩
end Go.Proofs.YtfnncdngfggcjaaGreatDoor
