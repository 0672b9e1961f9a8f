import Derived.WalkKit
import Derived.Lib.Bytealg
namespace Go.Proofs.Qxb6001040a

/-- The scanner over what is left of the text: how many bytes it passes, how many line ends among them. -/
def scan : List UInt8 → Bool → Nat × Nat
  | [], _ => (0, 0)
  | c :: l, true => if c = 10 then ((scan l false).1 + 1, (scan l false).2 + 1) else ((scan l true).1 + 1, (scan l true).2)
  | c :: l, false =>
    if c = 32 ∨ c = 9 ∨ c = 13 then ((scan l false).1 + 1, (scan l false).2)
    else if c = 10 then ((scan l false).1 + 1, (scan l false).2 + 1)
    else if c = 35 then ((scan l true).1 + 1, (scan l true).2)
    else (0, 0)

theorem scan_le (l : List UInt8) : ∀ b, (scan l b).1 ≤ l.length ∧ (scan l b).2 ≤ (scan l b).1 := by
  induction l with
  | nil => intro b; simp [scan]
  | cons c l ih =>
    have h0 := ih false
    have h1 := ih true
    intro b
    cases b
    · unfold scan
      split
      · simp; omega
      · split
        · simp; omega
        · split
          · simp; omega
          · simp
    · unfold scan
      split
      · simp; omega
      · simp; omega

/-- Where the scanner stops inside the text no blank begins. -/
theorem scan_stop (l : List UInt8) : ∀ b (h : (scan l b).1 < l.length), l[(scan l b).1] ≠ 32 ∧ l[(scan l b).1] ≠ 9 ∧ l[(scan l b).1] ≠ 13 ∧ l[(scan l b).1] ≠ 10 ∧ l[(scan l b).1] ≠ 35 := by
  induction l with
  | nil => intro b h; simp at h
  | cons c l ih =>
    intro b h
    cases b
    · by_cases c1 : c = 32 ∨ c = 9 ∨ c = 13
      · have e : scan (c :: l) false = ((scan l false).1 + 1, (scan l false).2) := by rw [scan, if_pos c1]
        simp only [e, List.length_cons, Nat.add_lt_add_iff_right] at h
        simp only [e, List.getElem_cons_succ]
        exact ih false h
      · by_cases c2 : c = 10
        · have e : scan (c :: l) false = ((scan l false).1 + 1, (scan l false).2 + 1) := by rw [scan, if_neg c1, if_pos c2]
          simp only [e, List.length_cons, Nat.add_lt_add_iff_right] at h
          simp only [e, List.getElem_cons_succ]
          exact ih false h
        · by_cases c3 : c = 35
          · have e : scan (c :: l) false = ((scan l true).1 + 1, (scan l true).2) := by rw [scan, if_neg c1, if_neg c2, if_pos c3]
            simp only [e, List.length_cons, Nat.add_lt_add_iff_right] at h
            simp only [e, List.getElem_cons_succ]
            exact ih true h
          · have e : scan (c :: l) false = (0, 0) := by rw [scan, if_neg c1, if_neg c2, if_neg c3]
            simp only [e, List.getElem_cons_zero]
            exact ⟨fun x => c1 (Or.inl x), fun x => c1 (Or.inr (Or.inl x)), fun x => c1 (Or.inr (Or.inr x)), c2, c3⟩
    · by_cases c1 : c = 10
      · have e : scan (c :: l) true = ((scan l false).1 + 1, (scan l false).2 + 1) := by rw [scan, if_pos c1]
        simp only [e, List.length_cons, Nat.add_lt_add_iff_right] at h
        simp only [e, List.getElem_cons_succ]
        exact ih false h
      · have e : scan (c :: l) true = ((scan l true).1 + 1, (scan l true).2) := by rw [scan, if_neg c1]
        simp only [e, List.length_cons, Nat.add_lt_add_iff_right] at h
        simp only [e, List.getElem_cons_succ]
        exact ih true h

theorem ix_none (l : List UInt8) (h : Lib.indexByte l 10 = -1) : scan l true = (l.length, 0) := by
  induction l with
  | nil => rfl
  | cons c l ih =>
    unfold Lib.indexByte at h
    by_cases hc : c = 10
    · simp [hc] at h
    · have hb : (c == 10) = false := by simpa using hc
      have hg := Lib.indexByte_ge l 10
      by_cases hn : Lib.indexByte l 10 = -1
      · rw [scan, if_neg hc, ih hn]; rfl
      · have hn' : (Lib.indexByte l 10 == -1) = false := by simpa using hn
        simp only [hb, hn', Bool.false_eq_true, if_false] at h
        omega

theorem ix_some (l : List UInt8) : ∀ (k : Nat), Lib.indexByte l 10 = k → k < l.length ∧ scan l true = (k + (scan (l.drop k) false).1, (scan (l.drop k) false).2) := by
  induction l with
  | nil => intro k h; simp [Lib.indexByte] at h
  | cons c l ih =>
    intro k h
    unfold Lib.indexByte at h
    by_cases hc : c = 10
    · have hb : (c == 10) = true := by simpa using hc
      simp only [hb, if_true] at h
      obtain rfl : k = 0 := by omega
      refine ⟨by simp, ?_⟩
      rw [List.drop_zero, scan, if_pos hc, scan, if_neg (by rw [hc]; decide), if_pos hc]
      simp
    · have hb : (c == 10) = false := by simpa using hc
      have hg := Lib.indexByte_ge l 10
      by_cases hn : Lib.indexByte l 10 = -1
      · have hn' : (Lib.indexByte l 10 == -1) = true := by simpa using hn
        simp only [hb, hn', Bool.false_eq_true, if_false, if_true] at h
        omega
      · have hn' : (Lib.indexByte l 10 == -1) = false := by simpa using hn
        simp only [hb, hn', Bool.false_eq_true, if_false] at h
        obtain ⟨j, rfl⟩ : ∃ j, k = j + 1 := ⟨k - 1, by omega⟩
        obtain ⟨h1, h2⟩ := ih j (by omega)
        refine ⟨by simp; omega, ?_⟩
        rw [scan, if_neg hc, h2, List.drop_succ_cons]
        simp; omega

/-- A comment, in one step: to its line end .. -/
theorem hash_some (l : List UInt8) (k : Nat) (h : Lib.indexByte (35 :: l) 10 = k) :
    1 ≤ k ∧ k < l.length + 1 ∧ scan (35 :: l) false = (k + (scan ((35 :: l).drop k) false).1, (scan ((35 :: l).drop k) false).2) := by
  have e : scan (35 :: l) false = scan (35 :: l) true := by
    simp [scan]
  obtain ⟨h1, h2⟩ := ix_some (35 :: l) k h
  refine ⟨?_, by simpa using h1, e.trans h2⟩
  cases k with
  | zero =>
    exfalso
    have hb : ((35 : UInt8) == 10) = false := by decide
    have hg := Lib.indexByte_ge l 10
    unfold Lib.indexByte at h
    simp only [hb, Bool.false_eq_true, if_false] at h
    split at h
    · omega
    · rename_i hh
      have : ¬ Lib.indexByte l 10 = -1 := by simpa using hh
      omega
  | succ k => omega

/-- .. or to the end. -/
theorem hash_none (l : List UInt8) (h : Lib.indexByte (35 :: l) 10 = -1) : scan (35 :: l) false = (l.length + 1, 0) := by
  have e : scan (35 :: l) false = scan (35 :: l) true := by
    simp [scan]
  rw [e, ix_none _ h]; rfl

theorem drop_at (s : ByteArray) (k : Nat) (h : k < s.size) : s.data.toList.drop k = s[k] :: s.data.toList.drop (k + 1) := by
  rw [List.drop_eq_getElem_cons (by simpa using h)]; rfl

theorem u8_eq {c : UInt8} (d : UInt8) (h : ((c.toNat : Int) == (d.toNat : Int)) = true) : c = d := by
  have h1 : (c.toNat : Int) = d.toNat := by simpa using h
  exact UInt8.toNat_inj.1 (by omega)
theorem u8_ne {c : UInt8} (d : UInt8) (h : ((c.toNat : Int) == (d.toNat : Int)) = false) : c ≠ d := by
  intro e
  rw [e] at h
  simp at h

/-- Where the walk stands: at p, on line l, it has to come to T1, T2. -/
def Left (doc : ByteArray) (T1 T2 p l : Nat) (b : Bool) : Prop := p + (scan (doc.data.toList.drop p) b).1 = T1 ∧ l + (scan (doc.data.toList.drop p) b).2 = T2

theorem left_blank {doc : ByteArray} {T1 T2 p l : Nat} (hlt : p < doc.size) (h : Left doc T1 T2 p l false) (hc : doc[p] = 32 ∨ doc[p] = 9 ∨ doc[p] = 13) : Left doc T1 T2 (p + 1) l false := by
  unfold Left at *
  rw [drop_at doc p hlt, scan, if_pos hc] at h
  simp only at h
  omega

theorem left_nl {doc : ByteArray} {T1 T2 p l : Nat} (hlt : p < doc.size) (h : Left doc T1 T2 p l false) (hc : doc[p] = 10) : Left doc T1 T2 (p + 1) (l + 1) false := by
  unfold Left at *
  rw [drop_at doc p hlt, scan, if_neg (by rw [hc]; decide), if_pos hc] at h
  simp only at h
  omega

theorem left_hash {doc : ByteArray} {T1 T2 p l : Nat} (hlt : p < doc.size) (h : Left doc T1 T2 p l false) (hc : doc[p] = 35) : Left doc T1 T2 (p + 1) l true := by
  unfold Left at *
  rw [drop_at doc p hlt, scan, if_neg (by rw [hc]; decide), if_neg (by rw [hc]; decide), if_pos hc] at h
  simp only at h
  omega

theorem left_stop {doc : ByteArray} {T1 T2 p l : Nat} (hlt : p < doc.size) (h : Left doc T1 T2 p l false) (h1 : doc[p] ≠ 32) (h2 : doc[p] ≠ 9) (h3 : doc[p] ≠ 13) (h4 : doc[p] ≠ 10) (h5 : doc[p] ≠ 35) : p = T1 ∧ l = T2 := by
  unfold Left at *
  rw [drop_at doc p hlt, scan, if_neg (by rintro (x | x | x); exact h1 x; exact h2 x; exact h3 x), if_neg h4, if_neg h5] at h
  simpa using h

theorem left_end {doc : ByteArray} {T1 T2 l : Nat} {b : Bool} (h : Left doc T1 T2 doc.size l b) : doc.size = T1 ∧ l = T2 := by
  unfold Left at *
  have e : doc.data.toList.drop doc.size = [] := List.drop_eq_nil_of_le (by simp)
  rw [e] at h
  simpa [scan] using h

theorem left_cnl {doc : ByteArray} {T1 T2 p l : Nat} (hlt : p < doc.size) (h : Left doc T1 T2 p l true) (hc : doc[p] = 10) : Left doc T1 T2 (p + 1) (l + 1) false := by
  unfold Left at *
  rw [drop_at doc p hlt, scan, if_pos hc] at h
  simp only at h
  omega

theorem left_cother {doc : ByteArray} {T1 T2 p l : Nat} (hlt : p < doc.size) (h : Left doc T1 T2 p l true) (hc : doc[p] ≠ 10) : Left doc T1 T2 (p + 1) l true := by
  unfold Left at *
  rw [drop_at doc p hlt, scan, if_neg hc] at h
  simp only at h
  omega

/-- A comment whose line end lies k bytes on. -/
theorem left_to {doc : ByteArray} {T1 T2 p l k : Nat} (hlt : p < doc.size) (h : Left doc T1 T2 p l false) (hc : doc[p] = 35) (hk : Lib.indexByte (doc.data.toList.drop p) 10 = k) : 1 ≤ k ∧ p + k < doc.size ∧ Left doc T1 T2 (p + k) l false := by
  unfold Left at *
  have hlen : (doc.data.toList.drop (p + 1)).length = doc.size - (p + 1) := by simp
  rw [drop_at doc p hlt, hc] at h hk
  obtain ⟨h1, h2, h3⟩ := hash_some _ k hk
  rw [h3, ← hc, ← drop_at doc p hlt, List.drop_drop] at h
  simp only at h
  rw [hlen] at h2
  refine ⟨h1, by omega, ?_⟩
  omega

/-- A comment that has no line end. -/
theorem left_no {doc : ByteArray} {T1 T2 p l : Nat} (hlt : p < doc.size) (h : Left doc T1 T2 p l false) (hc : doc[p] = 35) (hk : Lib.indexByte (doc.data.toList.drop p) 10 = -1) : Left doc T1 T2 doc.size l false := by
  unfold Left at *
  have hlen : (doc.data.toList.drop (p + 1)).length = doc.size - (p + 1) := by simp
  have e : doc.data.toList.drop doc.size = [] := List.drop_eq_nil_of_le (by simp)
  rw [drop_at doc p hlt, hc] at h hk
  rw [hash_none _ hk, hlen] at h
  rw [e]
  simp only [scan] at h ⊢
  omega

end Go.Proofs.Qxb6001040a
