import Derived.WalkKit
import Derived.Lib.Bytealg
namespace Go.Proofs.Qxb6001292a

/-- What the quotes hold: every q and every backslash behind a backslash. -/
def qb (q : UInt8) : List UInt8 → List UInt8
  | [] => []
  | c :: l => if c = q ∨ c = 92 then 92 :: c :: qb q l else c :: qb q l
/-- The quoted text. -/
def quo (q : UInt8) (v : List UInt8) : List UInt8 := q :: (qb q v ++ [q])

theorem qb_len (q : UInt8) (l : List UInt8) : (qb q l).length ≤ 2 * l.length := by
  induction l with
  | nil => simp [qb]
  | cons c l ih => unfold qb; split <;> simp <;> omega
theorem quo_len (q : UInt8) (l : List UInt8) : (quo q l).length ≤ 2 * l.length + 2 := by
  have := qb_len q l
  unfold quo; simp; omega

def hasB (l : List UInt8) (c : UInt8) : Bool := l.any (· == c)
theorem hasB_index (c : UInt8) (l : List UInt8) (h : hasB l c = true) : 0 ≤ Lib.indexByte l c := by
  induction l with
  | nil => simp [hasB] at h
  | cons x l ih =>
    unfold Lib.indexByte
    by_cases hx : (x == c) = true
    · simp [hx]
    · have hx' : (x == c) = false := by simpa using hx
      have := ih (by simpa [hasB, hx'] using h)
      have hn : (Lib.indexByte l c == -1) = false := by rw [beq_eq_false_iff_ne]; omega
      simp only [hx', hn, Bool.false_eq_true, if_false]
      omega
theorem drop_at (s : ByteArray) (k : Nat) (h : k < s.size) : s.data.toList.drop k = s[k] :: s.data.toList.drop (k + 1) := by
  rw [List.drop_eq_getElem_cons (by simpa using h)]; rfl
theorem has_yes {s : ByteArray} {k : Nat} {c : UInt8} {b : Bool} (h : k < s.size) (H : hasB (s.data.toList.drop k) c = b) (hc : s[k] = c) : b = true := by
  rw [drop_at s k h] at H
  simpa [hasB, hc] using H.symm
theorem has_no {s : ByteArray} {k : Nat} {c : UInt8} {b : Bool} (h : k < s.size) (H : hasB (s.data.toList.drop k) c = b) (hc : s[k] ≠ c) : hasB (s.data.toList.drop (k + 1)) c = b := by
  have hcb : (s[k] == c) = false := by simpa using hc
  rw [drop_at s k h] at H
  simpa [hasB, hcb] using H
theorem has_end {s : ByteArray} {c : UInt8} {b : Bool} (H : hasB (s.data.toList.drop s.size) c = b) : b = false := by
  rw [List.drop_eq_nil_of_le (by simp)] at H
  simpa [hasB] using H.symm

/-- A round of quoteModel: k bytes of v have been written: E. -/
def QRel (q : UInt8) (v : ByteArray) (k : Nat) (E : List UInt8) : Prop := E ++ qb q (v.data.toList.drop k) = q :: qb q v.data.toList ∧ E.length ≤ 2 * k + 1
theorem qrel_esc {q : UInt8} {v : ByteArray} {k : Nat} {E : List UInt8} (h : QRel q v k E) (hk : k < v.size) (hc : v[k] = q ∨ v[k] = 92) : QRel q v (k + 1) (E ++ [92] ++ [v[k]]) := by
  obtain ⟨h1, h2⟩ := h
  rw [drop_at v k hk, qb, if_pos hc] at h1
  exact ⟨by simpa using h1, by simp; omega⟩
theorem qrel_plain {q : UInt8} {v : ByteArray} {k : Nat} {E : List UInt8} (h : QRel q v k E) (hk : k < v.size) (hc : ¬ (v[k] = q ∨ v[k] = 92)) : QRel q v (k + 1) (E ++ [v[k]]) := by
  obtain ⟨h1, h2⟩ := h
  rw [drop_at v k hk, qb, if_neg hc] at h1
  exact ⟨by simpa using h1, by simp; omega⟩
theorem qrel_end {q : UInt8} {v : ByteArray} {E : List UInt8} (h : QRel q v v.size E) : E ++ [q] = quo q v.data.toList := by
  obtain ⟨h1, h2⟩ := h
  rw [List.drop_eq_nil_of_le (by simp), qb, List.append_nil] at h1
  rw [h1, quo]; rfl

/-- A round of unquote: it stands at i in s; p of v has been read, u is to come; E lies in 'escaped', the rest of p from start on in s. -/
structure URel (q : UInt8) (s : ByteArray) (v rest : List UInt8) (i start : Nat) (E : List UInt8) : Prop where
  le : 1 ≤ start ∧ start ≤ i ∧ i < s.size
  split : ∃ u, (E ++ (s.data.toList.drop start).take (i - start)) ++ u = v ∧ s.data.toList.drop i = qb q u ++ q :: rest
  len : E.length ≤ start

theorem u8_eq {c : UInt8} (d : UInt8) (h : ((c.toNat : Int) == (d.toNat : Int)) = true) : c = d := by
  have h1 : (c.toNat : Int) = d.toNat := by simpa using h
  exact UInt8.toNat_inj.1 (by omega)
theorem u8_ne {c : UInt8} (d : UInt8) (h : ((c.toNat : Int) == (d.toNat : Int)) = false) : c ≠ d := by
  intro e
  rw [e] at h
  simp at h

theorem take_more (s : ByteArray) (a i : Nat) (ha : a ≤ i) (hi : i < s.size) : (s.data.toList.drop a).take (i + 1 - a) = (s.data.toList.drop a).take (i - a) ++ [s[i]] := by
  rw [show i + 1 - a = (i - a) + 1 from by omega, List.take_succ_eq_append_getElem (by simp; omega)]
  congr 2
  rw [List.getElem_drop]
  have : a + (i - a) = i := by omega
  simp only [this]
  rfl

/-- The three ways of a round. -/
theorem urel_ways {q : UInt8} {s : ByteArray} {v rest : List UInt8} {i start : Nat} {E : List UInt8} (h : URel q s v rest i start E) (hi : i < s.size) :
    (s[i] = q ∧ E ++ (s.data.toList.drop start).take (i - start) = v ∧ s.data.toList.drop (i + 1) = rest) ∨
    (s[i] = 92 ∧ ∃ hj : i + 1 < s.size, (s[i + 1] = q ∨ s[i + 1] = 92) ∧ URel q s v rest (i + 2) (i + 2) (E ++ (s.data.toList.drop start).take (i - start) ++ [s[i + 1]])) ∨
    (s[i] ≠ q ∧ s[i] ≠ 92 ∧ URel q s v rest (i + 1) start E) := by
  obtain ⟨⟨l1, l2, l3⟩, ⟨u, hu1, hu2⟩, hlen⟩ := h
  have hd := drop_at s i hi
  cases u with
  | nil =>
    left
    rw [hd, qb, List.nil_append] at hu2
    injection hu2 with e1 e2
    exact ⟨e1, by simpa using hu1, e2⟩
  | cons c u =>
    right
    by_cases hc : c = q ∨ c = 92
    · left
      rw [hd, qb, if_pos hc] at hu2
      simp only [List.cons_append] at hu2
      injection hu2 with e1 e2
      have hj : i + 1 < s.size := by
        have := congrArg List.length e2
        simp at this
        omega
      have hd2 := drop_at s (i + 1) hj
      rw [hd2] at e2
      injection e2 with e3 e4
      have hj2 : i + 2 < s.size := by
        have := congrArg List.length e4
        simp at this
        omega
      refine ⟨e1, hj, by rw [e3]; exact hc, ⟨by omega, by omega, hj2⟩, ⟨u, ?_, e4⟩, ?_⟩
      · rw [e3, Nat.sub_self, List.take_zero, List.append_nil, ← hu1]
        simp
      · simp only [List.length_append, List.length_take, List.length_drop, List.length_cons, List.length_nil]
        omega
    · right
      rw [hd, qb, if_neg hc] at hu2
      simp only [List.cons_append] at hu2
      injection hu2 with e1 e2
      have hj : i + 1 < s.size := by
        have := congrArg List.length e2
        simp at this
        omega
      refine ⟨by rw [e1]; exact fun e => hc (Or.inl e), by rw [e1]; exact fun e => hc (Or.inr e), ⟨l1, by omega, hj⟩, ⟨u, ?_, e2⟩, hlen⟩
      rw [take_more s start i l2 hi, e1, ← hu1]
      simp

end Go.Proofs.Qxb6001292a
