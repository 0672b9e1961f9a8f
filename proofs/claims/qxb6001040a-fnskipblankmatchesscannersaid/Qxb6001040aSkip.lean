import Derived.Test.Qxb6001040aLeaf
import Derived.Lib.IndexBytes
namespace Go.Proofs.Qxb6001040a
open Go.RowKit
set_option linter.unusedVariables false

def posOf (b : Nat) (w : World) : Nat := match w.cell? ⟨b, 1, none⟩ with | some (.int _ n) => n.toNat | _ => 0
theorem posOf_at (doc : ByteArray) (w : World) (p l : Int) (n : Nat) : posOf w.heap.size ((w.alloc (.cells #[.string doc, .int .i64 p, .int .i64 l] 34)).drewN n) = p.toNat := by
  simp [posOf]
theorem setCell_drewN (w : World) (n : Nat) (a : Addr) (v : Value) : (w.drewN n).setCell a v = (w.setCell a v).drewN n := rfl
attribute [local go_sem] setCell_drewN

/-- The world in which the walker stands at p, on line l, and has to come to T1, T2. -/
def Rel (doc : ByteArray) (T1 T2 : Nat) (w : World) (wr : World) : Prop :=
  ∃ p l n : Nat, wr = (w.alloc (.cells #[.string doc, .int .i64 (p : Int), .int .i64 (l : Int)] 34)).drewN n ∧ p ≤ doc.size ∧ l ≤ 1073741824 + p ∧ Left doc T1 T2 p l false

theorem rel_mk {doc : ByteArray} {T1 T2 : Nat} {w : World} {p l n p0 : Nat} {P L l0 : Int} {m : Nat} (hP : P = p) (hL : L = l) (hp : p ≤ doc.size) (hl : l ≤ 1073741824 + p) (h : Left doc T1 T2 p l false) (hlt : p0 < p) :
    Rel doc T1 T2 w ((w.alloc (.cells #[.string doc, .int .i64 P, .int .i64 L] 34)).drewN n) ∧
      doc.size - posOf w.heap.size ((w.alloc (.cells #[.string doc, .int .i64 P, .int .i64 L] 34)).drewN n) <
      doc.size - posOf w.heap.size ((w.alloc (.cells #[.string doc, .int .i64 (p0 : Int), .int .i64 l0] 34)).drewN m) := by
  subst hP hL
  refine ⟨⟨p, l, n, rfl, hp, hl, h⟩, ?_⟩
  rw [posOf_at, posOf_at]
  omega

set_option maxHeartbeats 1000000 in
theorem skip_any (doc : ByteArray) (p0 l0 : Nat) (hp : p0 ≤ doc.size) (hd : doc.size ≤ 1048576) (hl : l0 ≤ 1073741824) (T1 T2 : Nat) (HT : Left doc T1 T2 p0 l0 false) (w : World) :
    Calls Try.prog 18 #[.pointer (some ⟨w.heap.size, 0, none⟩)] (w.alloc (.cells #[.string doc, .int .i64 (p0 : Int), .int .i64 (l0 : Int)] 34)) fun e w' =>
      e = .returned (.tuple #[]) ∧ ∃ n, w' = (w.alloc (.cells #[.string doc, .int .i64 (T1 : Int), .int .i64 (T2 : Int)] 34)).drewN n := by
  go_enter Try.func18, Try.ntmps18
  go_wp2
  go_loopw [2] (fun _ wr => Rel doc T1 T2 w wr) (fun _ wr => doc.size - posOf w.heap.size wr)
  case atStart => exact ⟨p0, l0, 0, rfl, hp, by omega, HT⟩
  case round =>
    obtain ⟨p, l, n, rfl, hpd, hlb, H⟩ := hrel
    by_cases hlt : p < doc.size
    · go_wp2_with fail
      refine (peek_in doc p w.heap.size hlt hd _ (by simp) (by simp)).mono ?_
      rintro e w' ⟨rfl, m, rfl⟩
      by_cases c32 : ((doc[p].toNat : Int) == 32) = true
      · go_wp2_with fail
        exact rel_mk (p := p + 1) (by omega) rfl (by omega) (by omega) (left_blank hlt H (Or.inl (u8_eq 32 c32))) (by omega)
      · have c32' : ((doc[p].toNat : Int) == 32) = false := by simpa using c32
        clear c32
        by_cases c9 : ((doc[p].toNat : Int) == 9) = true
        · go_wp2_with fail
          exact rel_mk (p := p + 1) (by omega) rfl (by omega) (by omega) (left_blank hlt H (Or.inr (Or.inl (u8_eq 9 c9)))) (by omega)
        · have c9' : ((doc[p].toNat : Int) == 9) = false := by simpa using c9
          clear c9
          by_cases c13 : ((doc[p].toNat : Int) == 13) = true
          · go_wp2_with fail
            exact rel_mk (p := p + 1) (by omega) rfl (by omega) (by omega) (left_blank hlt H (Or.inr (Or.inr (u8_eq 13 c13)))) (by omega)
          · have c13' : ((doc[p].toNat : Int) == 13) = false := by simpa using c13
            clear c13
            by_cases c10 : ((doc[p].toNat : Int) == 10) = true
            · go_wp2_with fail
              exact rel_mk (p := p + 1) (l := l + 1) (by omega) (by omega) (by omega) (by omega) (left_nl hlt H (u8_eq 10 c10)) (by omega)
            · have c10' : ((doc[p].toNat : Int) == 10) = false := by simpa using c10
              clear c10
              by_cases c35 : ((doc[p].toNat : Int) == 35) = true
              · go_wp2_with fail
                go_quiet ((go_at_call 21; exact (indexByte_any _ _ _).mono (fun e w' h => ⟨h.1, _, h.2⟩)))
                have hx := Lib.extract_to_end doc p
                have h10 : (10 : Int).toNat.toUInt8 = 10 := by decide
                rw [hx, h10]
                clear hx h10
                have hg := Lib.indexByte_ge (doc.data.toList.drop p) 10
                have HL := fun k => left_to (k := k) hlt H (u8_eq 35 c35)
                have HN := left_no hlt H (u8_eq 35 c35)
                generalize Lib.indexByte (doc.data.toList.drop p) 10 = ix at *
                by_cases hneg : ix = -1
                · have HE := HN hneg
                  subst hneg
                  clear HL HN hg
                  go_wp2_with fail
                  go_quiet (fail)
                  go_wp2_with fail
                  exact rel_mk (p := doc.size) (by omega) rfl (by omega) (by omega) HE (by omega)
                · obtain ⟨k, rfl⟩ : ∃ k : Nat, ix = k := ⟨ix.toNat, by omega⟩
                  obtain ⟨hk1, hk2, HE⟩ := HL k rfl
                  clear HL HN hg hneg
                  go_wp2_with fail
                  exact rel_mk (p := p + k) (by omega) rfl (by omega) (by omega) HE (by omega)
              · have c35' : ((doc[p].toNat : Int) == 35) = false := by simpa using c35
                clear c35
                obtain ⟨rfl, rfl⟩ := left_stop hlt H (u8_ne 32 c32') (u8_ne 9 c9') (u8_ne 13 c13') (u8_ne 10 c10') (u8_ne 35 c35')
                go_wp2
                refine bodyPost_ret (results_none rfl _ _ _) rfl ?_
                exact ⟨rfl, _, rfl⟩
    · go_wp2_with fail
      obtain rfl : p = doc.size := by omega
      refine (peek_end doc w.heap.size hd _ (by simp) (by simp)).mono ?_
      rintro e w' ⟨rfl, m, rfl⟩
      obtain ⟨rfl, rfl⟩ := left_end H
      go_wp2
      refine bodyPost_ret (results_none rfl _ _ _) rfl ?_
      exact ⟨rfl, _, rfl⟩
end Go.Proofs.Qxb6001040a
