/-
  Seat b6602729a. FnSplitYearMonthExactSpec (6) AT EVERY STRING.
-/
import Derived.Test.Qxb6602729aLaw6
import Derived.Lib.Strings
namespace Go.Proofs.Qxb6602729a
open Go.RowKit

theorem byte_at (s : ByteArray) (k : Nat) (c : UInt8) (h : s.data.toList[k]? = some c) : Byte s (k : Int) (c.toNat : Int) := by
  intro w
  obtain ⟨hk, e⟩ := List.getElem?_eq_some_iff.1 h
  have hk' : k < s.size := by simpa using hk
  rw [run_index_string w 9 s .i64 (k : Int) Try.underlying9, dif_pos ⟨by omega, by omega⟩]
  have e' : s[(k : Int).toNat]'(by simpa using hk') = c := by rw [← e]; rfl
  rw [e']

theorem seven (s : ByteArray) (hs : s.size = 7) : ∃ c0 c1 c2 c3 c4 c5 c6 : UInt8, s.data.toList = [c0, c1, c2, c3, c4, c5, c6] := by
  have hl : s.data.toList.length = 7 := by rw [← hs]; simp
  match h : s.data.toList, hl with
  | [c0, c1, c2, c3, c4, c5, c6], _ => exact ⟨c0, c1, c2, c3, c4, c5, c6, rfl⟩

theorem dv_no {l : List UInt8} (h : digs l = false) : dv l = 0 := by unfold dv; rw [h]; rfl
theorem dv_four (c0 c1 c2 c3 : UInt8) (h : digs [c0, c1, c2, c3] = true) : dv [c0, c1, c2, c3] = 1000 * ((c0.toNat : Int) - 48) + 100 * ((c1.toNat : Int) - 48) + 10 * ((c2.toNat : Int) - 48) + ((c3.toNat : Int) - 48) := by
  unfold dv
  rw [if_pos h]
  simp only [val]
  omega
theorem dv_two (c5 c6 : UInt8) (h : digs [c5, c6] = true) : dv [c5, c6] = 10 * ((c5.toNat : Int) - 48) + ((c6.toNat : Int) - 48) := by
  unfold dv
  rw [if_pos h]
  simp only [val]
  omega

theorem law6_seven (s : ByteArray) (w : World) (hs : s.size = 7) : Calls Try.prog 6 #[.string s] w fun e w' => e = .returned (.bool true) ∧ Grown w w' := by
  obtain ⟨c0, c1, c2, c3, c4, c5, c6, hl⟩ := seven s hs
  have i0 := byte_at s 0 c0 (by rw [hl]; rfl)
  have i1 := byte_at s 1 c1 (by rw [hl]; rfl)
  have i2 := byte_at s 2 c2 (by rw [hl]; rfl)
  have i3 := byte_at s 3 c3 (by rw [hl]; rfl)
  have i4 := byte_at s 4 c4 (by rw [hl]; rfl)
  have i5 := byte_at s 5 c5 (by rw [hl]; rfl)
  have i6 := byte_at s 6 c6 (by rw [hl]; rfl)
  have x1 : (s.extract 0 4).data.toList = [c0, c1, c2, c3] := by rw [Lib.extract_data, hl]; rfl
  have x2 : (s.extract 5 7).data.toList = [c5, c6] := by rw [Lib.extract_data, hl]; rfl
  cases h4 : ((c4.toNat : Int) != 45)
  · have hc := split16 s w _ _ _ (split27 s w hs _ i4 h4)
    rw [x1, x2] at hc
    cases d0 : digB (c0.toNat : Int)
    · cases d5 : digB (c5.toNat : Int)
      · have hy : digs [c0, c1, c2, c3] = false := by simp [digs, d0]
        have hm : digs [c5, c6] = false := by simp [digs, d5]
        rw [dv_no hy, dv_no hm, hy, hm] at hc
        exact law6_00 s w hs _ _ _ _ _ _ _ i0 i1 i2 i3 i4 i5 i6 h4 d0 d5 hc
      · cases d6 : digB (c6.toNat : Int)
        · have hy : digs [c0, c1, c2, c3] = false := by simp [digs, d0]
          have hm : digs [c5, c6] = false := by simp [digs, d5, d6]
          rw [dv_no hy, dv_no hm, hy, hm] at hc
          exact law6_01 s w hs _ _ _ _ _ _ _ i0 i1 i2 i3 i4 i5 i6 h4 d0 d5 d6 hc
        · have hy : digs [c0, c1, c2, c3] = false := by simp [digs, d0]
          have hm : digs [c5, c6] = true := by simp [digs, d5, d6]
          rw [dv_no hy, dv_two _ _ hm, hy, hm] at hc
          exact law6_02 s w hs _ _ _ _ _ _ _ i0 i1 i2 i3 i4 i5 i6 h4 d0 d5 d6 hc
    · cases d1 : digB (c1.toNat : Int)
      · cases d5 : digB (c5.toNat : Int)
        · have hy : digs [c0, c1, c2, c3] = false := by simp [digs, d0, d1]
          have hm : digs [c5, c6] = false := by simp [digs, d5]
          rw [dv_no hy, dv_no hm, hy, hm] at hc
          exact law6_10 s w hs _ _ _ _ _ _ _ i0 i1 i2 i3 i4 i5 i6 h4 d0 d1 d5 hc
        · cases d6 : digB (c6.toNat : Int)
          · have hy : digs [c0, c1, c2, c3] = false := by simp [digs, d0, d1]
            have hm : digs [c5, c6] = false := by simp [digs, d5, d6]
            rw [dv_no hy, dv_no hm, hy, hm] at hc
            exact law6_11 s w hs _ _ _ _ _ _ _ i0 i1 i2 i3 i4 i5 i6 h4 d0 d1 d5 d6 hc
          · have hy : digs [c0, c1, c2, c3] = false := by simp [digs, d0, d1]
            have hm : digs [c5, c6] = true := by simp [digs, d5, d6]
            rw [dv_no hy, dv_two _ _ hm, hy, hm] at hc
            exact law6_12 s w hs _ _ _ _ _ _ _ i0 i1 i2 i3 i4 i5 i6 h4 d0 d1 d5 d6 hc
      · cases d2 : digB (c2.toNat : Int)
        · cases d5 : digB (c5.toNat : Int)
          · have hy : digs [c0, c1, c2, c3] = false := by simp [digs, d0, d1, d2]
            have hm : digs [c5, c6] = false := by simp [digs, d5]
            rw [dv_no hy, dv_no hm, hy, hm] at hc
            exact law6_20 s w hs _ _ _ _ _ _ _ i0 i1 i2 i3 i4 i5 i6 h4 d0 d1 d2 d5 hc
          · cases d6 : digB (c6.toNat : Int)
            · have hy : digs [c0, c1, c2, c3] = false := by simp [digs, d0, d1, d2]
              have hm : digs [c5, c6] = false := by simp [digs, d5, d6]
              rw [dv_no hy, dv_no hm, hy, hm] at hc
              exact law6_21 s w hs _ _ _ _ _ _ _ i0 i1 i2 i3 i4 i5 i6 h4 d0 d1 d2 d5 d6 hc
            · have hy : digs [c0, c1, c2, c3] = false := by simp [digs, d0, d1, d2]
              have hm : digs [c5, c6] = true := by simp [digs, d5, d6]
              rw [dv_no hy, dv_two _ _ hm, hy, hm] at hc
              exact law6_22 s w hs _ _ _ _ _ _ _ i0 i1 i2 i3 i4 i5 i6 h4 d0 d1 d2 d5 d6 hc
        · cases d3 : digB (c3.toNat : Int)
          · cases d5 : digB (c5.toNat : Int)
            · have hy : digs [c0, c1, c2, c3] = false := by simp [digs, d0, d1, d2, d3]
              have hm : digs [c5, c6] = false := by simp [digs, d5]
              rw [dv_no hy, dv_no hm, hy, hm] at hc
              exact law6_30 s w hs _ _ _ _ _ _ _ i0 i1 i2 i3 i4 i5 i6 h4 d0 d1 d2 d3 d5 hc
            · cases d6 : digB (c6.toNat : Int)
              · have hy : digs [c0, c1, c2, c3] = false := by simp [digs, d0, d1, d2, d3]
                have hm : digs [c5, c6] = false := by simp [digs, d5, d6]
                rw [dv_no hy, dv_no hm, hy, hm] at hc
                exact law6_31 s w hs _ _ _ _ _ _ _ i0 i1 i2 i3 i4 i5 i6 h4 d0 d1 d2 d3 d5 d6 hc
              · have hy : digs [c0, c1, c2, c3] = false := by simp [digs, d0, d1, d2, d3]
                have hm : digs [c5, c6] = true := by simp [digs, d5, d6]
                rw [dv_no hy, dv_two _ _ hm, hy, hm] at hc
                exact law6_32 s w hs _ _ _ _ _ _ _ i0 i1 i2 i3 i4 i5 i6 h4 d0 d1 d2 d3 d5 d6 hc
          · cases d5 : digB (c5.toNat : Int)
            · have hy : digs [c0, c1, c2, c3] = true := by simp [digs, d0, d1, d2, d3]
              have hm : digs [c5, c6] = false := by simp [digs, d5]
              rw [dv_four _ _ _ _ hy, dv_no hm, hy, hm] at hc
              exact law6_40 s w hs _ _ _ _ _ _ _ i0 i1 i2 i3 i4 i5 i6 h4 d0 d1 d2 d3 d5 hc
            · cases d6 : digB (c6.toNat : Int)
              · have hy : digs [c0, c1, c2, c3] = true := by simp [digs, d0, d1, d2, d3]
                have hm : digs [c5, c6] = false := by simp [digs, d5, d6]
                rw [dv_four _ _ _ _ hy, dv_no hm, hy, hm] at hc
                exact law6_41 s w hs _ _ _ _ _ _ _ i0 i1 i2 i3 i4 i5 i6 h4 d0 d1 d2 d3 d5 d6 hc
              · have hy : digs [c0, c1, c2, c3] = true := by simp [digs, d0, d1, d2, d3]
                have hm : digs [c5, c6] = true := by simp [digs, d5, d6]
                rw [dv_four _ _ _ _ hy, dv_two _ _ hm, hy, hm] at hc
                exact law6_42 s w hs _ _ _ _ _ _ _ i0 i1 i2 i3 i4 i5 i6 h4 d0 d1 d2 d3 d5 d6 hc
  · exact law6_dash s w hs _ i4 h4 (split16 s w _ _ _ (split27_dash s w hs _ i4 h4))

theorem law6 (s : ByteArray) (w : World) (hm : s.size ≤ maxLen) : Calls Try.prog 6 #[.string s] w fun e w' => e = .returned (.bool true) ∧ Grown w w' := by
  by_cases hs : s.size = 7
  · exact law6_seven s w hs
  · exact law6_short s w hs hm (split16 s w _ _ _ (split27_short s w hs))

end Go.Proofs.Qxb6602729a
