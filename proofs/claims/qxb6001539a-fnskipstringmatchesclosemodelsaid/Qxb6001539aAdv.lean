import Derived.Test.Qxb6001539aLeaf
import Derived.StillTailTactics
namespace Go.Proofs.Qxb6001539a
open Go.RowKit
set_option linter.unusedVariables false

theorem setCell_drewN (w : World) (n : Nat) (a : Addr) (v : Value) : (w.drewN n).setCell a v = (w.setCell a v).drewN n := rfl
attribute [local go_sem] setCell_drewN

theorem at_same {src : ByteArray} {w : World} {a b l : Int} {m : Nat} (h : a = b) : (w.alloc (.cells #[.string src, .int .i64 a, .int .i64 l] 30)).drewN m = (w.alloc (.cells #[.string src, .int .i64 b, .int .i64 l] 30)).drewN m := by rw [h]
theorem still_tail_drew {P : Program} {id : Nat} {Q : Exit → Act → World → Prop} {a : Act} {w : World} {l : List Oper} (n : Nat) (hm : P.follows .mixedOrders = true) (hB : Region.lexTailB .any l.toArray n = true)
    (h : wpStill P l.toArray w.drew (fun a' => wpList P l.toArray Q (l.drop n) a' w.drew) (l.take n) a) : (Code.region id l.toArray true).wp P Q a w :=
  wp_region_still_tail n hm hB h

set_option maxHeartbeats 1000000 in
/-- advance: at most n bytes on, never past the end; the line becomes what it may. -/
theorem adv_any (src : ByteArray) (p n : Nat) (l : Int) (hs : src.size ≤ 1048576) (hp : p ≤ src.size) (hn : n ≤ 3) (w : World) (m : Nat) :
    Calls Try.prog 15 #[.pointer (some ⟨w.heap.size, 0, none⟩), .int .i64 (n : Int)] ((w.alloc (.cells #[.string src, .int .i64 (p : Int), .int .i64 l] 30)).drewN m) fun e w' =>
      e = .returned (.tuple #[]) ∧ ∃ (l' : Int) (m' : Nat), w' = (w.alloc (.cells #[.string src, .int .i64 ((p + min n (src.size - p) : Nat) : Int), .int .i64 l'] 30)).drewN m' := by
  by_cases hmin : n ≤ src.size - p
  · rw [show min n (src.size - p) = n from by omega]
    have hle : ¬ ((src.size : Int) - (p : Int) < (n : Int)) := by omega
    have hq1 : (p : Int) ≤ (p : Int) + (n : Int) := by omega
    have hq2 : (p : Int) + (n : Int) ≤ (src.size : Int) := by omega
    go_enter Try.func15, Try.ntmps15
    go_wp2
    go_region
    go_wp2
    have hwr : IntKind.i64.wrap ((p : Int) + (n : Int)) = (p : Int) + (n : Int) := by rw [IntKind.wrap_i64]; omega
    have hp0 : (0 : Int) ≤ (p : Int) := by omega
    have hp1 : (p : Int) ≤ (src.size : Int) := by omega
    refine still_tail_drew 23 (by kernel_rfl) (by kernel_rfl) ?_
    simp only [List.take_succ_cons, List.take_zero, List.drop_succ_cons, List.drop_zero]
    repeat still_step
    still_call (count_any _ _)
    repeat still_step
    refine wpStill_nil ?_
    go_wp2
    go_end0
    exact ⟨rfl, _, _, at_same (by omega)⟩
  · rw [show min n (src.size - p) = src.size - p from by omega]
    have hle : (src.size : Int) - (p : Int) < (n : Int) := by omega
    go_enter Try.func15, Try.ntmps15
    go_wp2
    go_region
    go_wp2
    have hwr : IntKind.i64.wrap ((p : Int) + ((src.size : Int) - (p : Int))) = (src.size : Int) := by rw [IntKind.wrap_i64]; omega
    have hp0 : (0 : Int) ≤ (p : Int) := by omega
    have hp1 : (p : Int) ≤ (src.size : Int) := by omega
    refine still_tail_drew 23 (by kernel_rfl) (by kernel_rfl) ?_
    simp only [List.take_succ_cons, List.take_zero, List.drop_succ_cons, List.drop_zero]
    repeat still_step
    still_call (count_any _ _)
    repeat still_step
    refine wpStill_nil ?_
    go_wp2
    go_end0
    exact ⟨rfl, _, _, at_same (by omega)⟩

/-- The same, its number spelt as the caller spells it. -/
theorem adv_at (src : ByteArray) (p n : Nat) (N : Int) (hN : N = (n : Int)) (l : Int) (hs : src.size ≤ 1048576) (hp : p ≤ src.size) (hn : n ≤ 3) (w : World) (m : Nat) :
    Calls Try.prog 15 #[.pointer (some ⟨w.heap.size, 0, none⟩), .int .i64 N] ((w.alloc (.cells #[.string src, .int .i64 (p : Int), .int .i64 l] 30)).drewN m) fun e w' =>
      e = .returned (.tuple #[]) ∧ ∃ (l' : Int) (m' : Nat), w' = (w.alloc (.cells #[.string src, .int .i64 ((p + min n (src.size - p) : Nat) : Int), .int .i64 l'] 30)).drewN m' := by
  subst hN
  exact adv_any src p n l hs hp hn w m
end Go.Proofs.Qxb6001539a
