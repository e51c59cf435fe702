import Derived.Test.YbulkbzsuFmtFn
namespace Go.Proofs.YbulkbzsuFmt
open Go.RowKit Go.Extern.Stop Go.Stop Go.Extern
set_option linter.unusedVariables false
set_option linter.unusedSimpArgs false
set_option linter.unusedSectionVars false

theorem dec_of {x : Nat} (hx : x < 18446744073709551616) (rest : List UInt8) : Lib.uvarintDec (Lib.uvarint x ++ rest) = (x, ((Lib.uvarint x).length : Int)) := by
  have := dec_enc (x + 1) x (by omega) 0 0 rest (by omega) (by simpa using hx)
  unfold Lib.uvarintDec
  rw [this]
  simp

theorem rd_of {x : Nat} (hx : x < 18446744073709551616) (rest : List UInt8) : rdErr (Lib.uvarint x ++ rest) = 0 := by
  have hp := Lib.uvarint_pos x
  unfold rdErr
  rw [dec_of hx]
  simp only []
  rw [if_neg (by omega), if_neg (by omega), if_neg]
  rintro ⟨h1, h2⟩
  have hl := last_enc (x + 1) x (by omega) (by omega)
  apply hl
  simp only [Int.toNat_natCast] at h2
  have e : (Lib.uvarint x ++ rest).getD ((Lib.uvarint x).length - 1) 0 = (Lib.uvarint x).getD ((Lib.uvarint x).length - 1) 0 := by
    rw [List.getD, List.getD, List.getElem?_append_left (by omega)]
  rw [← e]; exact h2

def lst (first : UInt8) (n p : Nat) (tail : List UInt8) : List UInt8 := first :: (Lib.uvarint n ++ (Lib.uvarint p ++ tail))

section
variable {first : UInt8} {n p : Nat} {tail : List UInt8} (hn : n < 18446744073709551616) (hp : p < 18446744073709551616)
include hn
theorem lst_rd1 : rdErr ((lst first n p tail).drop 1) = 0 := rd_of hn _
theorem lst_val1 : valOf (lst first n p tail) 1 = n := by
  show (Lib.uvarintDec (Lib.uvarint n ++ (Lib.uvarint p ++ tail))).1 = n
  rw [dec_of hn]
theorem lst_end1 : endOf (lst first n p tail) 1 = 1 + (Lib.uvarint n).length := by
  show 1 + (Lib.uvarintDec (Lib.uvarint n ++ (Lib.uvarint p ++ tail))).2.toNat = _
  rw [dec_of hn]; simp
theorem lst_drop : (lst first n p tail).drop (1 + (Lib.uvarint n).length) = Lib.uvarint p ++ tail := by
  unfold lst
  rw [Nat.add_comm, List.drop_succ_cons, List.drop_left]
include hp
theorem lst_res (es : Nat) : stRes (first.toNat : Int) es (lst first n p tail) = if ((lst first n p tail).length - (1 + (Lib.uvarint n).length)) / es < n then none else if n ≤ p then none else some (n, p, 1 + (Lib.uvarint n).length + (Lib.uvarint p).length) := by
  unfold stRes
  rw [if_neg (by simp [lst]), if_neg (by simp [lst]), if_neg (by simpa using lst_rd1 hn), lst_val1 hn, lst_end1 hn]
  have hd := lst_drop (first := first) (p := p) (tail := tail) hn
  have hv : valOf (lst first n p tail) (1 + (Lib.uvarint n).length) = p := by unfold valOf; rw [hd, dec_of hp]
  have he : endOf (lst first n p tail) (1 + (Lib.uvarint n).length) = 1 + (Lib.uvarint n).length + (Lib.uvarint p).length := by unfold endOf; rw [hd, dec_of hp]; simp
  have hr : ¬ (rdErr (Lib.uvarint p ++ tail) ≠ 0) := by simpa using rd_of hp tail
  rw [hv, he, hd, if_neg hr]
end

theorem lst_len (first : UInt8) (n p : Nat) (tail : List UInt8) : (lst first n p tail).length = 1 + (Lib.uvarint n).length + (Lib.uvarint p).length + tail.length := by
  simp [lst]; omega
theorem lst_cells (first : UInt8) (n p : Nat) (tail : List UInt8) : Lib.byteCells (lst first n p tail) = [.int .u8 (first.toNat : Int)] ++ Lib.byteCells (Lib.uvarint n) ++ Lib.byteCells (Lib.uvarint p) ++ Lib.byteCells tail := by
  simp [lst, Lib.byteCells]
end Go.Proofs.YbulkbzsuFmt
