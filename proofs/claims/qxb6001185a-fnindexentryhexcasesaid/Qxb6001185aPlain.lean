import Derived.WalkKit
import Derived.Lib.Bytealg
namespace Go.Proofs.Qxb6001185a

/-! ### decimal -/
/-- The digits of n, ahead of acc; at most f of them. -/
def dg : Nat → Nat → List UInt8 → List UInt8
  | 0, _, acc => acc
  | f + 1, n, acc => if n = 0 then acc else dg f (n / 10) (((48 + n % 10 : Nat)).toUInt8 :: acc)
def decL (n : Nat) : List UInt8 := if n = 0 then [48] else dg 9 n []
/-- A text of digits, read behind the number a. -/
def decGo : List UInt8 → Nat → Nat
  | [], a => a
  | c :: l, a => decGo l (a * 10 + (c.toNat - 48))
def isDig (c : UInt8) : Prop := 48 ≤ c.toNat ∧ c.toNat ≤ 57

theorem dig_toNat (m : Nat) (h : m < 10) : (((48 + m : Nat)).toUInt8).toNat = 48 + m := by
  rw [UInt8.toNat_ofNat']; omega

theorem dg_read (f : Nat) : ∀ (n : Nat) (acc : List UInt8), n < 10 ^ f → decGo (dg f n acc) 0 = decGo acc n := by
  induction f with
  | zero => intro n acc h; simp at h; subst h; rfl
  | succ f ih =>
    intro n acc h
    unfold dg
    by_cases h0 : n = 0
    · rw [if_pos h0, h0]
    · rw [if_neg h0, ih _ _ (by rw [Nat.pow_succ] at h; omega), decGo, dig_toNat _ (by omega)]
      congr 1
      omega

theorem dg_len (f : Nat) : ∀ (n : Nat) (acc : List UInt8), acc.length ≤ (dg f n acc).length ∧ (dg f n acc).length ≤ f + acc.length := by
  induction f with
  | zero => intro n acc; simp [dg]
  | succ f ih =>
    intro n acc
    unfold dg
    split
    · omega
    · have := ih (n / 10) (((48 + n % 10 : Nat)).toUInt8 :: acc)
      simp only [List.length_cons] at this
      omega

theorem dg_dig (f : Nat) : ∀ (n : Nat) (acc : List UInt8), (∀ c ∈ acc, isDig c) → ∀ c ∈ dg f n acc, isDig c := by
  induction f with
  | zero => intro n acc h; exact h
  | succ f ih =>
    intro n acc h
    unfold dg
    split
    · exact h
    · refine ih _ _ ?_
      intro c hc
      rcases List.mem_cons.1 hc with rfl | hc
      · unfold isDig; rw [dig_toNat _ (by omega)]; omega
      · exact h c hc

theorem decL_read (n : Nat) (h : n ≤ 999999999) : decGo (decL n) 0 = n := by
  unfold decL
  split
  · rename_i h0; subst h0; rfl
  · rw [dg_read 9 n [] (by omega)]; rfl
theorem decL_dig (n : Nat) : ∀ c ∈ decL n, isDig c := by
  unfold decL
  split
  · intro c hc; simp at hc; subst hc; unfold isDig; decide
  · exact dg_dig 9 n [] (by simp)
theorem decL_len (n : Nat) : 1 ≤ (decL n).length ∧ (decL n).length ≤ 9 := by
  unfold decL
  split
  · simp
  · rename_i h0
    have h1 := dg_len 9 n []
    have h2 := dg_len 8 (n / 10) [((48 + n % 10 : Nat)).toUInt8]
    have e : dg 9 n [] = dg 8 (n / 10) [((48 + n % 10 : Nat)).toUInt8] := by rw [dg, if_neg h0]
    rw [← e] at h2
    simp only [List.length_cons, List.length_nil] at h1 h2
    omega

theorem decGo_zeros (p : Nat) (l : List UInt8) : decGo (List.replicate p 48 ++ l) 0 = decGo l 0 := by
  induction p with
  | zero => simp
  | succ p ih => rw [List.replicate_succ, List.cons_append, decGo]; exact ih

/-- What has been read stays small. -/
theorem decGo_append (l m : List UInt8) : ∀ a, decGo (l ++ m) a = decGo m (decGo l a) := by
  induction l with
  | nil => intro a; rfl
  | cons c l ih => intro a; exact ih _
theorem decGo_lt (l : List UInt8) (hd : ∀ c ∈ l, isDig c) : ∀ a, decGo l a < (a + 1) * 10 ^ l.length := by
  induction l with
  | nil => intro a; simp [decGo]
  | cons c l ih =>
    intro a
    have hc := hd c (List.mem_cons_self ..)
    unfold isDig at hc
    have := ih (fun x hx => hd x (List.mem_cons_of_mem _ hx)) (a * 10 + (c.toNat - 48))
    rw [decGo, List.length_cons, Nat.pow_succ]
    refine Nat.lt_of_lt_of_le this ?_
    have h3 : a * 10 + (c.toNat - 48) + 1 ≤ (a + 1) * 10 := by omega
    calc (a * 10 + (c.toNat - 48) + 1) * 10 ^ l.length ≤ ((a + 1) * 10) * 10 ^ l.length := Nat.mul_le_mul_right _ h3
      _ = (a + 1) * (10 ^ l.length * 10) := by rw [Nat.mul_assoc, Nat.mul_comm 10]

/-! ### hex -/
/-- The digit d, 'a' or 'A' for ten. -/
def hc (up : Bool) (d : Nat) : UInt8 := if d < 10 then ((48 + d : Nat)).toUInt8 else if up then ((55 + d : Nat)).toUInt8 else ((87 + d : Nat)).toUInt8
def hxa (up : Bool) : Nat → Nat → List UInt8 → List UInt8
  | 0, _, acc => acc
  | k + 1, v, acc => hxa up k (v / 16) (hc up (v % 16) :: acc)
def hv (c : UInt8) : Option Nat := if 48 ≤ c.toNat ∧ c.toNat ≤ 57 then some (c.toNat - 48) else if 97 ≤ c.toNat ∧ c.toNat ≤ 102 then some (c.toNat - 87) else none
def hexGo : List UInt8 → Nat → Option Nat
  | [], a => some a
  | c :: l, a => match hv c with | none => none | some d => hexGo l (a * 16 + d)
def hasL : Nat → Nat → Bool
  | 0, _ => false
  | k + 1, v => if 10 ≤ v % 16 then true else hasL k (v / 16)

theorem hc_low (d : Nat) (h : d < 16) : (hc false d).toNat = if d < 10 then 48 + d else 87 + d := by
  unfold hc
  by_cases h10 : d < 10
  · rw [if_pos h10, if_pos h10, dig_toNat d h10]
  · rw [if_neg h10, if_neg h10, if_neg (by simp), UInt8.toNat_ofNat']; omega
theorem hc_up (d : Nat) (h : d < 16) : (hc true d).toNat = if d < 10 then 48 + d else 55 + d := by
  unfold hc
  by_cases h10 : d < 10
  · rw [if_pos h10, if_pos h10, dig_toNat d h10]
  · rw [if_neg h10, if_neg h10, if_pos rfl, UInt8.toNat_ofNat']; omega
theorem hv_low (d : Nat) (h : d < 16) : hv (hc false d) = some d := by
  unfold hv
  rw [hc_low d h]
  by_cases h10 : d < 10
  · rw [if_pos h10, if_pos (by omega)]; congr 1; omega
  · rw [if_neg h10, if_neg (by omega), if_pos (by omega)]; congr 1; omega
theorem hv_up (d : Nat) (h : d < 16) (h10 : 10 ≤ d) : hv (hc true d) = none := by
  unfold hv
  rw [hc_up d h, if_neg (by omega : ¬ d < 10), if_neg (by omega), if_neg (by omega)]
theorem hc_dig (d : Nat) (h : d < 10) : hc true d = hc false d := by unfold hc; rw [if_pos h, if_pos h]

theorem hxa_read (k : Nat) : ∀ (v : Nat) (acc : List UInt8) (a : Nat), hexGo (hxa false k v acc) a = hexGo acc (a * 16 ^ k + v % 16 ^ k) := by
  induction k with
  | zero => intro v acc a; simp [hxa, Nat.mod_one]
  | succ k ih =>
    intro v acc a
    rw [hxa, ih, hexGo, hv_low _ (Nat.mod_lt _ (by omega))]
    simp only
    congr 1
    have e : 16 ^ (k + 1) = 16 * 16 ^ k := by rw [Nat.pow_succ, Nat.mul_comm]
    rw [e, Nat.mod_mul, Nat.add_mul]
    have e1 : a * 16 ^ k * 16 = a * (16 * 16 ^ k) := by rw [Nat.mul_assoc, Nat.mul_comm (16 ^ k)]
    rw [e1]
    omega

theorem hex_read (v : Nat) (h : v < 4294967296) : hexGo (hxa false 8 v []) 0 = some v := by
  rw [hxa_read, hexGo]
  congr 1
  omega

theorem hxa_len (up : Bool) (k : Nat) : ∀ (v : Nat) (acc : List UInt8), (hxa up k v acc).length = k + acc.length := by
  induction k with
  | zero => intro v acc; simp [hxa]
  | succ k ih => intro v acc; rw [hxa, ih, List.length_cons]; omega

theorem hxa_same (k : Nat) : ∀ (v : Nat) (acc : List UInt8), hasL k v = false → hxa true k v acc = hxa false k v acc := by
  induction k with
  | zero => intro v acc _; rfl
  | succ k ih =>
    intro v acc h
    unfold hasL at h
    split at h
    · cases h
    · rw [hxa, hxa, hc_dig _ (by omega), ih _ _ h]

theorem hexGo_bad (l : List UInt8) : ∀ a, (∃ c ∈ l, hv c = none) → hexGo l a = none := by
  induction l with
  | nil => rintro a ⟨c, hc, _⟩; cases hc
  | cons x l ih =>
    rintro a ⟨c, hc, hn⟩
    unfold hexGo
    cases hx : hv x with
    | none => rfl
    | some d =>
      simp only
      refine ih _ ⟨c, ?_, hn⟩
      rcases List.mem_cons.1 hc with rfl | hc
      · rw [hn] at hx; cases hx
      · exact hc
theorem hxa_mem (up : Bool) (k : Nat) : ∀ (v : Nat) (acc : List UInt8) (c : UInt8), c ∈ acc → c ∈ hxa up k v acc := by
  induction k with
  | zero => intro v acc c h; exact h
  | succ k ih => intro v acc c h; rw [hxa]; exact ih _ _ _ (List.mem_cons_of_mem _ h)
theorem hxa_bad (k : Nat) : ∀ (v : Nat) (acc : List UInt8), hasL k v = true → ∃ c ∈ hxa true k v acc, hv c = none := by
  induction k with
  | zero => intro v acc h; cases h
  | succ k ih =>
    intro v acc h
    unfold hasL at h
    split at h
    · rename_i h10
      exact ⟨hc true (v % 16), by rw [hxa]; exact hxa_mem _ _ _ _ _ (List.mem_cons_self ..), hv_up _ (Nat.mod_lt _ (by omega)) h10⟩
    · rw [hxa]; exact ih _ _ h
theorem hex_bad (v : Nat) (h : hasL 8 v = true) : hexGo (hxa true 8 v []) 0 = none := hexGo_bad _ _ (hxa_bad 8 v [] h)

/-! ### names -/
def okB (c : UInt8) : Bool := (65 ≤ c.toNat && c.toNat ≤ 90) || (97 ≤ c.toNat && c.toNat ≤ 122) || (48 ≤ c.toNat && c.toNat ≤ 57) || c.toNat == 95 || c.toNat == 46 || c.toNat == 45
def nameB : List UInt8 → Bool
  | [] => false
  | c :: l => c != 46 && c != 45 && (c :: l).all okB
theorem name_space (l : List UInt8) (h : nameB l = true) : (32 : UInt8) ∉ l := by
  cases l with
  | nil => simp
  | cons c l =>
    unfold nameB at h
    rw [Bool.and_eq_true] at h
    intro hm
    have := List.all_eq_true.1 h.2 32 hm
    revert this
    decide

/-! ### cutting at a blank -/
theorem ix_at (c : UInt8) (b : List UInt8) : ∀ a : List UInt8, c ∉ a → Lib.indexByte (a ++ c :: b) c = a.length := by
  intro a
  induction a with
  | nil => intro _; simp [Lib.indexByte]
  | cons x a ih =>
    intro h
    have hx : (x == c) = false := by
      rw [beq_eq_false_iff_ne]; intro e; exact h (by rw [e]; exact List.mem_cons_self ..)
    have := ih (fun hm => h (List.mem_cons_of_mem _ hm))
    rw [List.cons_append, Lib.indexByte, hx, this]
    have hne : ((a.length : Int) == -1) = false := by rw [beq_eq_false_iff_ne]; omega
    simp [hne]

end Go.Proofs.Qxb6001185a
