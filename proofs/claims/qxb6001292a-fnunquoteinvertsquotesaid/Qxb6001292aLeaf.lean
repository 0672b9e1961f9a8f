import Derived.Test.Qxb6001292aRows
import Derived.Test.Qxb6001292aPlain
import Derived.WalkKit
import Derived.WalkSpells
import Derived.WalkLawsBesides
import Derived.Lib.Bytealg
import Derived.Lib.IndexBytes
import Derived.Lib.AppendStr
import Derived.Laws.IdiomStrings
import Derived.Deep.QuietTactic
import Derived.BigQuiet
namespace Go.Proofs.Qxb6001292a
open Go.RowKit
set_option linter.unusedVariables false

theorem toList_eq (s : ByteArray) : s.toList = s.data.toList := Lib.toList_data s
theorem size_of {A : ByteArray} {l : List UInt8} (h : A.data.toList = l) : A.size = l.length := by rw [← h]; simp
theorem data_ext {a b : ByteArray} (h : a.data.toList = b.data.toList) : a = b := by
  obtain ⟨⟨x⟩⟩ := a; obtain ⟨⟨y⟩⟩ := b; simp at h; rw [h]

set_option maxHeartbeats 400000 in
/-- strings.IndexByte -/
theorem indexByte_any (s : ByteArray) (c : Int) (w : World) :
    Calls Try.prog 33 #[.string s, .int .u8 c] w fun e w' => e = .returned (.int .i64 (Lib.indexByte s.data.toList c.toNat.toUInt8)) ∧ w' = w := by
  go_enter Try.func33, Try.ntmps33
  go_wp2
  rw [run_callFunc_extern Try.func37 (by kernel_rfl) (by kernel_rfl) (by kernel_rfl) (e := Extern.BytealgIndexByte.indexByte) (by kernel_rfl), Lib.run_indexByteString]
  simp only [Result.andThen]
  rw [Oper.upon_value]
  go_wp2
  go_ret
  exact ⟨rfl, rfl⟩

theorem byte_back (c : UInt8) : ((c.toNat : Int)).toNat.toUInt8 = c := by
  rw [Int.toNat_natCast]; exact UInt8.toNat_inj.1 (by simp)

set_option maxHeartbeats 400000 in
theorem has_any (s : ByteArray) (c : UInt8) (hs : s.size ≤ 1048576) (w : World) :
    Calls Try.prog 14 #[.string s, .int .u8 (c.toNat : Int)] w fun e w' => e = .returned (.bool (hasB s.data.toList c)) ∧ w' = w := by
  generalize hb : hasB s.data.toList c = b
  have HB : Hid (hasB (s.data.toList.drop 0) c = b) := hb
  clear hb
  go_enter Try.func14, Try.ntmps14
  go_wp2
  go_loop [5] (fun i => ∃ k : Nat, i = .int .i64 k ∧ k ≤ s.size ∧ Hid (hasB (s.data.toList.drop k) c = b)) (fun i => s.size - (intOf i).toNat)
  case atStart => exact ⟨0, rfl, Nat.zero_le _, HB⟩
  case round =>
    obtain ⟨k, rfl, hk, H⟩ := hrel
    by_cases hlt : k < s.size
    · by_cases hc : ((s[k].toNat : Int) == (c.toNat : Int)) = true
      · have e := has_yes hlt H.out (u8_eq c hc)
        subst e
        clear HB H
        go_wp2
        go_ret
        exact ⟨rfl, rfl⟩
      · have hc' : ((s[k].toNat : Int) == (c.toNat : Int)) = false := by simpa using hc
        clear hc
        go_wp2
        go_round
        case rel => exact ⟨k + 1, by go_num, by omega, has_no hlt H.out (u8_ne c hc')⟩
        case measure => simp [intOf]; omega
    · obtain rfl : k = s.size := by omega
      have e := has_end H.out
      subst e
      clear HB H
      go_wp2
      go_ret
      exact ⟨rfl, rfl⟩

theorem info5 : (Try.prog.info? 5).map (fun i => (i.zero, i.size, i.bytes)) = some (some (.int .u8 0), 1, 1) := by kernel_rfl

/-- Bytes as cells. -/
def cellsOf (E : List UInt8) : List Value := E.map fun b => Value.int .u8 (b.toNat : Int)
theorem cellsOf_append (E F : List UInt8) : cellsOf E ++ cellsOf F = cellsOf (E ++ F) := by simp [cellsOf]
theorem cellsOf_len (E : List UInt8) : (cellsOf E).length = E.length := by simp [cellsOf]

theorem cellsOf_oneCell (E : List UInt8) : ∀ u ∈ cellsOf E, u.oneCell' = true := by
  intro u hu
  simp only [cellsOf, List.mem_map] at hu
  obtain ⟨b, _, rfl⟩ := hu
  rfl
theorem strCells_eq (s : ByteArray) : Lib.strCells s = cellsOf s.data.toList := rfl
theorem grown_below {base : Nat} {e : TypeId} {n : Nat} {xs : List Value} {v : Value} {w w' : World} (hown : w.ownsRow base e 1 v n xs) (hg : w.grownBy w' v.ownBlock) (hbase : base ≤ w.heap.size) : Below base w w' :=
  (Below.refl _ _).grown hg hbase fun k hk => (hown.lt k hk).1

/-- 'append(b, c)', b a row of the call's own. -/
theorem wp_app1 {ops : Array Oper} {rest : List Oper} {o : Oper} {a : Act} {Q : Exit → Act → World → Prop} (w : World) (hgd : o.guard = none) (s x : Operand)
    (ho : o.op = .call { callee := .builtin .append, args := #[s, x], argTypes := #[34, 34] }) (base : Nat) (v : Value) (E : List UInt8) (hs : a.eval s = v) (hown : w.ownsRow base 5 1 v E.length (cellsOf E))
    (g : Nat) (c : UInt8) (hx : a.eval x = .slice (some ⟨g, 0, none⟩) 1 1) (hc : w.cell? ⟨g, 0, none⟩ = some (.int .u8 (c.toNat : Int))) (hl : E.length ≤ 1000000) (hbase : base ≤ w.heap.size)
    (h : ∀ v' w', w'.ownsRow base 5 1 v' (E ++ [c]).length (cellsOf (E ++ [c])) → Below base w w' → v' ≠ .slice none 0 0 → wpList Try.prog ops Q rest (a.put o.dst v') w') : wpList Try.prog ops Q (o :: rest) a w := by
  obtain ⟨i0, hi, hz0, hz1, hz2⟩ := info_parts info5
  refine wpList_append_own w hgd s x 34 ho base 5 i0 (.int .u8 0) 1 1 Try.underlying34 hi hz0 hz1 hz2 rfl (by decide) v E.length (cellsOf E) hs hown ⟨g, 0, none⟩ 1 1 (cellsOf [c]) hx rfl ?_ (cellsOf_oneCell _) (by unfold maxLen; omega) (by omega) hbase ?_
  · intro j u hj
    cases j with
    | zero =>
      simp only [cellsOf, List.map_cons, List.getElem?_cons_zero, Option.some.injEq] at hj
      subst hj
      exact hc
    | succ j => simp [cellsOf] at hj
  · intro v' w' h1 h2 h3
    rw [cellsOf_append] at h1
    refine h v' w' (by simpa using h1) (grown_below hown h2 hbase) ?_
    intro hv
    have := h3.1 hv
    omega

/-- 'append(b, s...)', b nil or a row of the call's own, s a string. -/
theorem wp_appS {ops : Array Oper} {rest : List Oper} {o : Oper} {a : Act} {Q : Exit → Act → World → Prop} (w : World) (hgd : o.guard = none) (sl x : Operand)
    (ho : o.op = .call { callee := .builtin .append, args := #[sl, x], argTypes := #[34, 9] }) (base : Nat) (v : Value) (E : List UInt8) (hs : a.eval sl = v) (hown : w.ownsRow base 5 1 v E.length (cellsOf E))
    (s : ByteArray) (hx : a.eval x = .string s) (hl : E.length ≤ 1000000) (hl2 : s.size ≤ 1000000) (hbase : base ≤ w.heap.size)
    (h : ∀ v' w', w'.ownsRow base 5 1 v' (E ++ s.data.toList).length (cellsOf (E ++ s.data.toList)) → Below base w w' → (v ≠ .slice none 0 0 → v' ≠ .slice none 0 0) → wpList Try.prog ops Q rest (a.put o.dst v') w') : wpList Try.prog ops Q (o :: rest) a w := by
  obtain ⟨i0, hi, hz0, hz1, hz2⟩ := info_parts info5
  refine Lib.wpList_append_own_string w hgd sl x 34 9 ho base 5 i0 Try.underlying34 Try.underlying9 hi hz0 hz1 hz2 v E.length (cellsOf E) hs hown s hx (by unfold maxLen; omega) (by omega) hbase ?_
  intro v' w' h1 h2 h3
  rw [strCells_eq, cellsOf_append] at h1
  refine h v' w' (by simpa using h1) (grown_below hown h2 hbase) ?_
  intro hv hv'
  exact hv (h3.1 hv').1

/-- 'string(b)', b a row of the call's own, not nil. -/
theorem own_conv {base : Nat} {v : Value} {E : List UInt8} {w : World} (hown : w.ownsRow base 5 1 v E.length (cellsOf E)) (hv : v ≠ .slice none 0 0) : (convert 34 9 v).run Try.prog w = .ok (.string ⟨E.toArray⟩) w := by
  rcases hown.2 with ⟨h, _⟩ | ⟨g, cap, cur, rfl, h⟩
  · exact absurd h hv
  · refine run_convert_bytes_back (P := Try.prog) w 34 9 5 ⟨g, 0, none⟩ cap E Try.underlying34 Try.underlying5 Try.underlying9 ?_
    intro j hj
    exact hown.cells (g := g) rfl j _ (by simp [cellsOf, hj])

set_option maxHeartbeats 1000000 in
theorem quote_any (v : ByteArray) (q : UInt8) (hv : v.size ≤ 65536) (w : World) :
    Calls Try.prog 15 #[.string v, .int .u8 (q.toNat : Int)] w fun e w' => ∃ A : ByteArray, e = .returned (.string A) ∧ A.data.toList = quo q v.data.toList ∧ Below w.heap.size w w' := by
  obtain ⟨i0, hi, hz0, hz1, hz2⟩ := info_parts info5
  go_enter Try.func15, Try.ntmps15
  go_wp2_with (first
    | (at_make; refine wpList_make_own _ rfl _ _ 34 rfl w.heap.size 5 i0 (.int .u8 0) 1 Try.underlying34 hi hz0 hz1 .i64 .i64 _ (2 * v.size + 2) rfl rfl (by omega) (by rw [hz2]; omega) (by unfold maxLen; omega) (Nat.le_refl _) ?_; intro w1 hown1 hgrow1)
    | (at_builtin; refine wp_app1 _ rfl (.tmp 13) (.tmp 15) rfl w.heap.size _ [] rfl (hown1.alloc _) w1.heap.size q rfl (by simp) (by simp) (by have := hgrow1.size; simp; omega) ?_; intro v2 w2 hown2 hb2 hne2))
  have hbw1 : Below w.heap.size w w1 := (Below.refl _ _).grown hgrow1 (Nat.le_refl _) (fun k hk => by cases hk)
  have hbw2 : Below w.heap.size w w2 := (hbw1.alloc hbw1.size _).trans hb2
  clear hb2 hbw1 hgrow1 hown1 hi hz0 hz1 hz2
  go_loopw [5, 6] (fun b i wr => ∃ (k : Nat) (E : List UInt8), i = .int .i64 k ∧ k ≤ v.size ∧ Below w.heap.size w wr ∧ wr.ownsRow w.heap.size 5 1 b E.length (cellsOf E) ∧ QRel q v k E) (fun _ i _ => v.size - (intOf i).toNat)
  case atStart => exact ⟨0, [q], rfl, Nat.zero_le _, hbw2, hown2, rfl, by simp⟩
  case round =>
    clear hbw2 hown2 hne2
    obtain ⟨k, E, rfl, hk, hb, hown, H⟩ := hrel
    have hbs := hb.size
    have hEl := H.2
    by_cases hlt : k < v.size
    · by_cases hc : v[k] = q ∨ v[k] = 92
      · have H2 := qrel_esc H hlt hc
        have HP : Hid (QRel q v (k + 1) (E ++ [92] ++ [v[k]])) := H2
        have hq92 : ((v[k].toNat : Int) == (q.toNat : Int)) = false → ((v[k].toNat : Int) == 92) = true := fun h => by
          rcases hc with e | e
          · exact absurd e (u8_ne q h)
          · rw [e]; rfl
        clear H H2 hc
        by_cases hq : ((v[k].toNat : Int) == (q.toNat : Int)) = true
        · clear hq92
          go_wp2_with (first
            | (at_builtin; refine wp_app1 _ rfl (.tmp 33) (.tmp 34) rfl w.heap.size _ E rfl (hown.alloc _) wr.heap.size 92 rfl (by simp) (by omega) (by simp; omega) ?_; intro v2 w2 hown2 hb2 hne2; have hs2 := hb2.size; simp only [World.size_alloc] at hs2)
            | (at_builtin; refine wp_app1 _ rfl (.tmp 36) (.tmp 38) rfl w.heap.size _ (E ++ [92]) rfl (hown2.alloc _) w2.heap.size v[k] rfl (by simp) (by simp; omega) (by simp; omega) ?_; intro v3 w3 hown3 hb3 hne3))
          have hbw2 := (hb.alloc hbs _).trans hb2
          have hbw3 := (hbw2.alloc (by omega) _).trans hb3
          go_roundw
          case rel => exact ⟨k + 1, _, by go_num, by omega, hbw3, hown3, HP.out⟩
          case measure => simp [intOf]; omega
        · have hq' : ((v[k].toNat : Int) == (q.toNat : Int)) = false := by simpa using hq
          have h92 := hq92 hq'
          clear hq92 hq
          go_wp2_with (first
            | (at_builtin; refine wp_app1 _ rfl (.tmp 33) (.tmp 34) rfl w.heap.size _ E rfl (hown.alloc _) wr.heap.size 92 rfl (by simp) (by omega) (by simp; omega) ?_; intro v2 w2 hown2 hb2 hne2; have hs2 := hb2.size; simp only [World.size_alloc] at hs2)
            | (at_builtin; refine wp_app1 _ rfl (.tmp 36) (.tmp 38) rfl w.heap.size _ (E ++ [92]) rfl (hown2.alloc _) w2.heap.size v[k] rfl (by simp) (by simp; omega) (by simp; omega) ?_; intro v3 w3 hown3 hb3 hne3))
          have hbw2 := (hb.alloc hbs _).trans hb2
          have hbw3 := (hbw2.alloc (by omega) _).trans hb3
          go_roundw
          case rel => exact ⟨k + 1, _, by go_num, by omega, hbw3, hown3, HP.out⟩
          case measure => simp [intOf]; omega
      · have HP : Hid (QRel q v (k + 1) (E ++ [v[k]])) := qrel_plain H hlt hc
        have hq' : ((v[k].toNat : Int) == (q.toNat : Int)) = false := by
          rw [beq_eq_false_iff_ne]; intro e
          exact hc (Or.inl (UInt8.toNat_inj.1 (by omega)))
        have h92 : ((v[k].toNat : Int) == 92) = false := by
          rw [beq_eq_false_iff_ne]; intro e
          exact hc (Or.inr (UInt8.toNat_inj.1 (by show v[k].toNat = 92; omega)))
        clear H hc
        go_wp2_with (at_builtin; refine wp_app1 _ rfl (.tmp 36) (.tmp 38) rfl w.heap.size _ E rfl (hown.alloc _) wr.heap.size v[k] rfl (by simp) (by omega) (by simp; omega) ?_; intro v3 w3 hown3 hb3 hne3)
        have hbw3 := (hb.alloc hbs _).trans hb3
        go_roundw
        case rel => exact ⟨k + 1, _, by go_num, by omega, hbw3, hown3, HP.out⟩
        case measure => simp [intOf]; omega
    · obtain rfl : k = v.size := by omega
      have HP : Hid (E ++ [q] = quo q v.data.toList) := qrel_end H
      clear H
      go_wp2_with (at_builtin; refine wp_app1 _ rfl (.tmp 40) (.tmp 42) rfl w.heap.size _ E rfl (hown.alloc _) wr.heap.size q rfl (by simp) (by omega) (by simp; omega) ?_; intro v3 w3 hown3 hb3 hne3; have hcv := own_conv hown3 hne3)
      have hbw3 := (hb.alloc hbs _).trans hb3
      go_ret
      exact ⟨_, rfl, HP.out, hbw3⟩
end Go.Proofs.Qxb6001292a
