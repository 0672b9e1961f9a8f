import Derived.WalkKit
import Derived.Lib.Bytealg
namespace Go.Proofs.Qxb6001539a

/-- How many of the next bytes, at most f, are q. -/
def ex (q : UInt8) : Nat → List UInt8 → Nat
  | 0, _ => 0
  | _ + 1, [] => 0
  | f + 1, c :: l => if c = q then ex q f l + 1 else 0
/-- What a closing quote Q takes, with the marks behind it. -/
def cl (Q : List UInt8) (q : UInt8) (t : List UInt8) : Nat := Q.length + if Q.length = 3 then ex q 2 (t.drop Q.length) else 0
/-- The end of the string, from what is left of the text; 'ev': an even run of backslashes lies ahead. -/
def md (basic : Bool) (Q : List UInt8) (q : UInt8) : List UInt8 → Bool → Nat
  | [], _ => 0
  | c :: l, ev => if ((!basic || ev) && Q.isPrefixOf (c :: l)) = true then cl Q q (c :: l) else md basic Q q l (if c = 92 then !ev else true) + 1

theorem ex_le (q : UInt8) (f : Nat) : ∀ l, ex q f l ≤ l.length := by
  induction f with
  | zero => intro l; simp [ex]
  | succ f ih =>
    intro l
    cases l with
    | nil => simp [ex]
    | cons c l =>
      have := ih l
      unfold ex
      split <;> simp <;> omega

theorem md_plain (Q : List UInt8) (q : UInt8) (l : List UInt8) : ∀ ev, md false Q q l ev = md false Q q l true := by
  induction l with
  | nil => intro ev; rfl
  | cons c l ih =>
    intro ev
    unfold md
    simp only [Bool.not_false, Bool.true_or, Bool.true_and]
    split
    · rfl
    · rw [ih (if c = 92 then !ev else true), ih (if c = 92 then !true else true)]

theorem drop_at (s : ByteArray) (k : Nat) (h : k < s.size) : s.data.toList.drop k = s[k] :: s.data.toList.drop (k + 1) := by
  rw [List.drop_eq_getElem_cons (by simpa using h)]; rfl
theorem drop_end (s : ByteArray) : s.data.toList.drop s.size = [] := List.drop_eq_nil_of_le (by simp)

/-- The text's own setting: a quote of one or three bytes q. -/
structure Quote (Q : ByteArray) (basic : Bool) : Prop where
  len : Q.size = 1 ∨ Q.size = 3
  pos : 0 < Q.size
  head : (Q[0]'pos == 34) = basic

/-- It stands at p; the string ends at R. -/
def At (src Q : ByteArray) (q : UInt8) (basic ev : Bool) (R p : Nat) : Prop := p + md basic Q.data.toList q (src.data.toList.drop p) ev = R

theorem at_end {src Q : ByteArray} {q : UInt8} {basic ev : Bool} {R : Nat} (h : At src Q q basic ev R src.size) : src.size = R := by
  unfold At at h
  rw [drop_end, md] at h
  omega
/-- A closing quote. -/
theorem at_close {src Q : ByteArray} {q : UInt8} {basic : Bool} {ev : Bool} {R p : Nat} (hp : p < src.size) (h : At src Q q basic ev R p) (hev : (!basic || ev) = true) (hpre : Q.data.toList.isPrefixOf (src.data.toList.drop p) = true) :
    p + Q.size ≤ src.size ∧ (p + Q.size) + (if Q.size = 3 then ex q 2 (src.data.toList.drop (p + Q.size)) else 0) = R := by
  have hl := (List.isPrefixOf_iff_prefix.1 hpre).length_le
  simp at hl
  unfold At at h
  rw [drop_at src p hp] at h hpre
  rw [md, if_pos (by rw [hev, hpre]; rfl), cl, ← drop_at src p hp, List.drop_drop] at h
  have hQ : Q.data.toList.length = Q.size := by simp
  rw [hQ] at h
  exact ⟨by omega, by omega⟩
/-- No closing quote here. -/
theorem at_next {src Q : ByteArray} {q : UInt8} {basic ev : Bool} {R p : Nat} (hp : p < src.size) (h : At src Q q basic ev R p) (hno : ((!basic || ev) && Q.data.toList.isPrefixOf (src.data.toList.drop p)) = false) :
    At src Q q basic (if src[p] = 92 then !ev else true) R (p + 1) := by
  unfold At at *
  rw [drop_at src p hp] at h hno
  rw [md, if_neg (by rw [hno]; simp)] at h
  omega
/-- skipString's steps: behind a backslash of a basic string one byte more, if there is one .. -/
theorem at_esc {src Q : ByteArray} {q : UInt8} {R p : Nat} (hQ : Quote Q true) (hp : p < src.size) (h : At src Q q true true R p) (hc : src[p] = 92) :
    At src Q q true true R (p + min 2 (src.size - p)) := by
  have hno : Q.data.toList.isPrefixOf (src.data.toList.drop p) = false := by
    have hq := drop_at Q 0 hQ.pos
    rw [List.drop_zero] at hq
    have h34 : Q[0]'hQ.pos = 34 := by simpa using hQ.head
    rw [hq, drop_at src p hp, hc, h34, List.isPrefixOf]
    rfl
  have h1 := at_next hp h (by rw [hno]; rfl)
  rw [if_pos hc] at h1
  by_cases hp1 : p + 1 < src.size
  · have h2 := at_next hp1 h1 rfl
    have e : p + min 2 (src.size - p) = p + 1 + 1 := by omega
    rw [e]
    have e2 : (if src[p + 1] = 92 then !(!true) else true) = true := by split <;> rfl
    rw [e2] at h2
    exact h2
  · have e : p + min 2 (src.size - p) = p + 1 := by omega
    rw [e]
    have e3 : p + 1 = src.size := by omega
    unfold At at *
    rw [e3, drop_end] at h1 ⊢
    exact h1
/-- .. and one byte where nothing closes. -/
theorem at_one {src Q : ByteArray} {q : UInt8} {basic : Bool} {R p : Nat} (hp : p < src.size) (h : At src Q q basic true R p) (hc : basic = true → src[p] ≠ 92) (hno : Q.data.toList.isPrefixOf (src.data.toList.drop p) = false) :
    At src Q q basic true R (p + min 1 (src.size - p)) := by
  have h1 := at_next hp h (by rw [hno]; simp)
  rw [show p + min 1 (src.size - p) = p + 1 from by omega]
  cases basic with
  | true => rw [if_neg (hc rfl)] at h1; exact h1
  | false => unfold At at *; rw [md_plain] at h1; exact h1

/-- The marks behind a closing quote of three. -/
theorem ex_yes {src : ByteArray} {q : UInt8} {f p : Nat} (hp : p < src.size) (hc : src[p] = q) : p + ex q (f + 1) (src.data.toList.drop p) = (p + 1) + ex q f (src.data.toList.drop (p + 1)) := by
  rw [drop_at src p hp, ex, if_pos hc]; omega
theorem ex_no {src : ByteArray} {q : UInt8} {f p : Nat} (hp : p < src.size) (hc : src[p] ≠ q) : ex q f (src.data.toList.drop p) = 0 := by
  cases f with
  | zero => rw [ex]
  | succ f => rw [drop_at src p hp, ex, if_neg hc]
theorem ex_out {src : ByteArray} {q : UInt8} {f : Nat} : ex q f (src.data.toList.drop src.size) = 0 := by
  rw [drop_end]; cases f <;> rfl

theorem u8_eq {c : UInt8} (d : UInt8) (h : ((c.toNat : Int) == (d.toNat : Int)) = true) : c = d := by
  have h1 : (c.toNat : Int) = d.toNat := by simpa using h
  exact UInt8.toNat_inj.1 (by omega)
theorem u8_ne {c : UInt8} (d : UInt8) (h : ((c.toNat : Int) == (d.toNat : Int)) = false) : c ≠ d := by
  intro e
  rw [e] at h
  simp at h
theorem u8_no {c d : UInt8} (h : c ≠ d) : ((c.toNat : Int) == (d.toNat : Int)) = false := by
  rw [beq_eq_false_iff_ne]; intro e
  exact h (UInt8.toNat_inj.1 (by omega))
theorem u8_is {c d : UInt8} (h : c = d) : ((c.toNat : Int) == (d.toNat : Int)) = true := by
  rw [h]; simp

/-- hasAt, from its k-th byte on. -/
theorem pre_yes {src Q : ByteArray} {i k : Nat} {b : Bool} (hk : k < Q.size) (hi : i + k < src.size) (H : (Q.data.toList.drop k).isPrefixOf (src.data.toList.drop (i + k)) = b) (hc : src[i + k] = Q[k]) :
    (Q.data.toList.drop (k + 1)).isPrefixOf (src.data.toList.drop (i + (k + 1))) = b := by
  rw [drop_at Q k hk, drop_at src (i + k) hi, List.isPrefixOf, hc] at H
  rw [show i + (k + 1) = i + k + 1 from by omega]
  simpa using H
theorem pre_no {src Q : ByteArray} {i k : Nat} {b : Bool} (hk : k < Q.size) (hi : i + k < src.size) (H : (Q.data.toList.drop k).isPrefixOf (src.data.toList.drop (i + k)) = b) (hc : src[i + k] ≠ Q[k]) : b = false := by
  have hcb : (Q[k] == src[i + k]) = false := by rw [beq_eq_false_iff_ne]; exact fun e => hc e.symm
  rw [drop_at Q k hk, drop_at src (i + k) hi, List.isPrefixOf, hcb] at H
  simpa using H.symm
theorem pre_end {src Q : ByteArray} {i : Nat} {b : Bool} (H : (Q.data.toList.drop Q.size).isPrefixOf (src.data.toList.drop (i + Q.size)) = b) : b = true := by
  rw [drop_end, List.isPrefixOf] at H
  exact H.symm
theorem pre_short {src Q : ByteArray} {i : Nat} (h : src.size < i + Q.size) (hq : 0 < Q.size) : Q.data.toList.isPrefixOf (src.data.toList.drop i) = false := by
  cases hb : Q.data.toList.isPrefixOf (src.data.toList.drop i) with
  | false => rfl
  | true =>
    have hl := (List.isPrefixOf_iff_prefix.1 hb).length_le
    simp at hl
    omega

end Go.Proofs.Qxb6001539a
