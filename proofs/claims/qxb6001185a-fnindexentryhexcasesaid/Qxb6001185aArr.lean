import Derived.Test.Qxb6001185aName
import Derived.WideShapes
namespace Go.Proofs.Qxb6001185a
open Go.RowKit
set_option linter.unusedVariables false

/-- A block of N bytes of the call's own. -/
structure Arr (b N : Nat) (w : World) : Prop where
  cell : ∀ j, j < N → ∃ x, w.cell? ⟨b, j, none⟩ = some (.int .u8 x)
  free : ∀ j, j < N → w.frozen? ⟨b, j, none⟩ = false
/-- From i on it holds l. -/
def Lies (b i : Nat) (l : List UInt8) (w : World) : Prop := ∀ j (h : j < l.length), w.cell? ⟨b, i + j, none⟩ = some (.int .u8 (l[j].toNat : Int))

theorem arr_set {b N i : Nat} {w : World} (h : Arr b N w) (hi : i < N) (x : Int) : Arr b N (w.setCell ⟨b, i, none⟩ (.int .u8 x)) := by
  constructor
  · intro j hj
    obtain ⟨y, hy⟩ := h.cell i hi
    by_cases e : j = i
    · subst e
      exact ⟨x, World.cell?_setCell_same _ _ _ hy⟩
    · obtain ⟨z, hz⟩ := h.cell j hj
      exact ⟨z, by rw [World.cell?_setCell_other _ _ _ _ (by simp; try omega)]; exact hz⟩
  · intro j hj
    rw [World.frozen?_setCell]
    exact h.free j hj
theorem lies_set {b N i : Nat} {l : List UInt8} {w : World} (h : Arr b N w) (hl : Lies b (i + 1) l w) (hi : i < N) (c : UInt8) : Lies b i (c :: l) (w.setCell ⟨b, i, none⟩ (.int .u8 (c.toNat : Int))) := by
  intro j hj
  obtain ⟨y, hy⟩ := h.cell i hi
  cases j with
  | zero => exact World.cell?_setCell_same _ _ _ hy
  | succ j =>
    rw [World.cell?_setCell_other _ _ _ _ (by simp), show i + (j + 1) = i + 1 + j from by omega]
    exact hl j (by simpa using hj)
theorem lies_nil (b i : Nat) (w : World) : Lies b i [] w := fun j h => by simp at h
theorem lies_conv {b i : Nat} {l : List UInt8} {w : World} (h : Lies b i l w) (cap : Nat) : (convert 36 9 (.slice (some ⟨b, i, none⟩) l.length cap)).run Try.prog w = .ok (.string ⟨l.toArray⟩) w :=
  run_convert_bytes_back (P := Try.prog) w 36 9 5 ⟨b, i, none⟩ cap l Try.underlying36 Try.underlying5 Try.underlying9 (fun j hj => by rw [WideShapes.add_plain]; exact h j hj)

theorem slice35 (b i : Nat) (I : Int) (hI : I = (i : Int)) (hi : i < 20) (W : World) :
    (Instr.sliceAt 35 (.pointer (some ⟨b, 0, none⟩)) (some (.int .i64 I)) none none).run Try.prog W = .ok (.slice (some ⟨b, i, none⟩) (20 - i) (20 - i)) W := by
  subst hI
  have hu : Try.prog.underlying 35 = some (.array (Try.prog.arrayLen 35) (Try.prog.elem 35)) := by kernel_rfl
  have hl : Try.prog.arrayLen 35 = 20 := by kernel_rfl
  have he : Try.prog.elem 35 = 5 := by kernel_rfl
  have hs : (sizeOf 5).run Try.prog W = .ok 1 W := by kernel_rfl
  rw [run_sliceAt_array_l W 35 ⟨b, 0, none⟩ hu .i64 i (by omega) (by rw [hl]; omega), he, hl, hs]
  simp only [Result.andThen, slicedAt, Int.toNat_natCast, Nat.mul_one]
  rw [if_neg (by omega), WideShapes.add_plain, Nat.zero_add]
theorem slice37 (b : Nat) (W : World) :
    (Instr.sliceAt 37 (.pointer (some ⟨b, 0, none⟩)) none none none).run Try.prog W = .ok (.slice (some ⟨b, 0, none⟩) 8 8) W := by
  have hu : Try.prog.underlying 37 = some (.array (Try.prog.arrayLen 37) (Try.prog.elem 37)) := by kernel_rfl
  have hl : Try.prog.arrayLen 37 = 8 := by kernel_rfl
  have he : Try.prog.elem 37 = 5 := by kernel_rfl
  have hs : (sizeOf 5).run Try.prog W = .ok 1 W := by kernel_rfl
  rw [run_sliceAt_array_all W 37 ⟨b, 0, none⟩ hu, he, hl, hs]
  simp only [Result.andThen, slicedAt]
  rw [if_neg (by omega), WideShapes.add_plain]

theorem dec_lt {f n : Nat} (h : n < 10 ^ (f + 1)) : n / 10 < 10 ^ f := by rw [Nat.pow_succ] at h; omega
theorem dec_end {n : Nat} (h : n < 10 ^ 0) : n = 0 := by simpa using h
theorem dg_zero (f : Nat) (acc : List UInt8) : dg f 0 acc = acc := by cases f <;> rfl

end Go.Proofs.Qxb6001185a
