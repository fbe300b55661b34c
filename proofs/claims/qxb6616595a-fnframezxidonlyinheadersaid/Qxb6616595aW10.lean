import Derived.Test.Qxb6616595aW9
namespace Go.Proofs.Qxb6616595a
open Go.RowKit

theorem replied_row (R : List Int) (a u n : Int) : set4 (set4 (set8 (set4 (Z20 ++ R) 4 a) 8 u) 16 0) 0 n = be4 n ++ be4 a ++ be8 u ++ be4 0 ++ R := by
  simp only [set4, set8, Z20, be4, be8, List.cons_append, List.nil_append, List.set_cons_succ, List.set_cons_zero, Nat.reduceAdd]

def body (t : Int) (s : ByteArray) : List Int := be4 (t % 4294967296) ++ (be4 3 ++ (be4 (s.size : Int) ++ strBytes s))

theorem replied_noted (t z : Int) (s : ByteArray) : replied (noted t s) z = (be4 ((s.size : Int) + 28) ++ be4 4294967295) ++ be8 (z % 18446744073709551616) ++ (be4 0 ++ body t s) := by
  have h : noted t s = Z20 ++ body t s := by simp only [noted, body, List.append_assoc]
  unfold replied
  rw [noted_length, h, replied_row, show (((32 + s.size : Nat) : Int) - 4) = (s.size : Int) + 28 by omega]
  simp only [List.append_assoc]

theorem replied_length (t z : Int) (s : ByteArray) : (replied (noted t s) z).length = s.size + 32 := by
  simp only [replied, set4_length, set8_length, noted_length]
  omega

theorem replied_bytes (t z : Int) (s : ByteArray) (hs : s.size ≤ 1048576) : Bytes (replied (noted t s) z) := by
  rw [replied_noted]
  exact (((be4_bytes _ (by omega) (by omega)).append (be4_bytes _ (by omega) (by omega))).append (be8_bytes _ (by omega) (by omega))).append ((be4_bytes _ (by omega) (by omega)).append ((be4_bytes _ (by omega) (by omega)).append ((be4_bytes _ (by omega) (by omega)).append ((be4_bytes _ (by omega) (by omega)).append (strBytes_bytes s)))))

theorem replied_zxid (t z : Int) (s : ByteArray) (j : Nat) (h : j < 8) : (replied (noted t s) z).getD (8 + j) 0 = (be8 (z % 18446744073709551616)).getD j 0 := by
  rw [replied_noted]
  exact getD_mid (be4 ((s.size : Int) + 28) ++ be4 4294967295) (be8 (z % 18446744073709551616)) _ j h

theorem replied_else (t z z' : Int) (s : ByteArray) (j : Nat) (h : j < 8 ∨ 16 ≤ j) : (replied (noted t s) z).getD j 0 = (replied (noted t s) z').getD j 0 := by
  rw [replied_noted, replied_noted]
  generalize hA : be4 ((s.size : Int) + 28) ++ be4 4294967295 = A
  have lA : A.length = 8 := by rw [← hA]; rfl
  have l1 : (be8 (z % 18446744073709551616)).length = 8 := rfl
  have l2 : (be8 (z' % 18446744073709551616)).length = 8 := rfl
  generalize be8 (z % 18446744073709551616) = M at l1
  generalize be8 (z' % 18446744073709551616) = M' at l2
  generalize be4 0 ++ body t s = R
  clear hA
  simp only [List.getD]
  rcases h with h | h
  · rw [List.append_assoc, List.append_assoc, List.getElem?_append_left (by omega), List.getElem?_append_left (by omega)]
  · rw [List.getElem?_append_right (by simp; omega), List.getElem?_append_right (by simp; omega)]
    simp [lA, l1, l2]
end Go.Proofs.Qxb6616595a
