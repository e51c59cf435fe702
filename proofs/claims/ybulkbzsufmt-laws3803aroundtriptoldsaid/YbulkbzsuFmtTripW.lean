import Derived.Test.YbulkbzsuFmtName
import Derived.Test.YbulkbzsuFmtFu
import Derived.Test.YbulkbzsuFmtTrip
import Derived.WalkSmall
namespace Go.Proofs.YbulkbzsuFmt
open Go.RowKit Go.Extern.Stop Go.Stop Go.Extern
set_option linter.unusedVariables false
set_option linter.unusedSimpArgs false

theorem ba_size (l : List UInt8) : ({ data := l.toArray } : ByteArray).size = l.length := by simp [ByteArray.size]
theorem gPow : Ybaf.prog.globalNamed "internal/strconv.uint64pow10" = some 2 := by kernel_rfl

set_option maxRecDepth 100000 in
set_option maxHeartbeats 2000000 in
theorem trip_t (F : Interp) (host : ByteArray) (zs : Int) (n : Nat) (v6 v7 : Value) (w : World) (hF : F.answers w.tape) (hE : Errs w v6 v7) (htab : Lib.TabIs Ybaf.prog w "internal/strconv.uint64pow10" .u64 Lib.pow10Tab) (hz0 : 0 ≤ zs) (hz1 : zs ≤ 255) (hn : n < 18446744073709551616) (hl : host.size ≤ 4096) :
    Calls Ybaf.prog 4 #[.string host, .bool true, .int .u8 zs, .int .u64 n] w fun e w' => e = .returned (.bool true) ∧ Below w.heap.size w w' := by
  have q1 : ¬ (4096 : Int) < host.size := by omega
  obtain ⟨z, hz⟩ : ∃ z : Nat, (zs % 4 : Int) = (z : Int) := ⟨(zs % 4).toNat, by omega⟩
  have HR := hide (Ybaf.strings_Repeat { data := #[48] } z w (by omega) (by simp [ByteArray.size]; omega))
  have hrl : (Lib.repeatL [48] z).length = z := by rw [Lib.repeatL_length]; simp
  obtain ⟨nd, hnd⟩ : ∃ nd, nd = (Lib.decDigits n).length := ⟨_, rfl⟩
  have hnd20 : nd ≤ 20 := by
    rw [hnd, Lib.decDigits_length]
    by_cases h0 : n = 0
    · rw [h0, Lib.nDigits_small (by omega)]; omega
    · have := Lib.numDigits_eq n (by omega) hn; split at this <;> omega
  have hnd' := hnd.symm
  have hsz : 2 < w.heap.size := by
    unfold Lib.TabIs World.var? at htab
    simp only [gPow, Option.bind_some] at htab
    rcases Nat.lt_or_ge 2 w.heap.size with h' | h'
    · exact h'
    · simp [Array.getElem?_eq_none h'] at htab
  clear hnd
  go_enter Ybaf.func4, Ybaf.ntmps4
  go_wp2_with fail
  refine HR.out.mono ?_
  rintro e w1 ⟨rfl, bel1⟩
  have HU := hide (fu_walk n hn w1 (var?_below bel1 gPow hsz htab))
  have hE1 := hE.mono bel1.block
  have hF1 : F.answers w1.tape := by rw [bel1.tape]; exact hF
  go_wp2_with fail
  refine HU.out.mono ?_
  rintro e w2 ⟨rfl, bel2⟩
  have hs1 := bel1.size
  have hE2 := hE1.mono bel2.block
  have hF2 : F.answers w2.tape := by rw [bel2.tape]; exact hF1
  obtain ⟨s, hs⟩ : ∃ s, s = host ++ { data := #[58, 55] } ++ { data := #[58] } ++ { data := (Lib.repeatL [48] z).toArray } ++ { data := (Lib.decDigits n).toArray } := ⟨_, rfl⟩
  have hss : s.size ≤ 10000 := by
    rw [hs]
    simp only [ByteArray.size_append, ba_size, hrl, hnd', List.length_cons, List.length_nil]
    omega
  have hback : nameOf s = some (host ++ { data := #[58, 55] }, n) := name_back (host ++ { data := #[58, 55] }) s z n (by omega) (by rw [hs]; simp)
  have HBk := hide hback
  have HN := hide (name_walk F s hss v6 v7 w2 hF2 hE2)
  have bel12 := bel1.trans (bel2.mono hs1)
  clear HR HU hback hE hE1 bel1 bel2
  go_wp2_with fail
  rw [← hs]
  refine HN.out.mono ?_
  rintro e w3 ⟨h, m, ev, rfl, bel3, hend⟩
  rcases hend with ⟨hno, _⟩ | ⟨u, hu, rfl, rfl⟩
  · rw [HBk.out] at hno; cases hno
  · rw [HBk.out] at hu
    cases hu
    have belF := bel12.trans (bel3.mono (Nat.le_trans bel12.size (Nat.le_refl _)))
    have HB := hide (fun o => belF.alloc (o := o) belF.size)
    clear HN HBk bel3 bel12 belF
    go_wp2
    go_ret
    exact ⟨by simp, HB.out _⟩

set_option maxRecDepth 100000 in
set_option maxHeartbeats 2000000 in
theorem trip_f (F : Interp) (host : ByteArray) (zs : Int) (n : Nat) (v6 v7 : Value) (w : World) (hF : F.answers w.tape) (hE : Errs w v6 v7) (htab : Lib.TabIs Ybaf.prog w "internal/strconv.uint64pow10" .u64 Lib.pow10Tab) (hz0 : 0 ≤ zs) (hz1 : zs ≤ 255) (hn : n < 18446744073709551616) (hl : host.size ≤ 4096) :
    Calls Ybaf.prog 4 #[.string host, .bool false, .int .u8 zs, .int .u64 n] w fun e w' => e = .returned (.bool true) ∧ Below w.heap.size w w' := by
  have q1 : ¬ (4096 : Int) < host.size := by omega
  obtain ⟨z, hz⟩ : ∃ z : Nat, (zs % 4 : Int) = (z : Int) := ⟨(zs % 4).toNat, by omega⟩
  have HR := hide (Ybaf.strings_Repeat { data := #[48] } z w (by omega) (by simp [ByteArray.size]; omega))
  have hrl : (Lib.repeatL [48] z).length = z := by rw [Lib.repeatL_length]; simp
  obtain ⟨nd, hnd⟩ : ∃ nd, nd = (Lib.decDigits n).length := ⟨_, rfl⟩
  have hnd20 : nd ≤ 20 := by
    rw [hnd, Lib.decDigits_length]
    by_cases h0 : n = 0
    · rw [h0, Lib.nDigits_small (by omega)]; omega
    · have := Lib.numDigits_eq n (by omega) hn; split at this <;> omega
  have hnd' := hnd.symm
  have hsz : 2 < w.heap.size := by
    unfold Lib.TabIs World.var? at htab
    simp only [gPow, Option.bind_some] at htab
    rcases Nat.lt_or_ge 2 w.heap.size with h' | h'
    · exact h'
    · simp [Array.getElem?_eq_none h'] at htab
  clear hnd
  go_enter Ybaf.func4, Ybaf.ntmps4
  go_wp2_with fail
  refine HR.out.mono ?_
  rintro e w1 ⟨rfl, bel1⟩
  have HU := hide (fu_walk n hn w1 (var?_below bel1 gPow hsz htab))
  have hE1 := hE.mono bel1.block
  have hF1 : F.answers w1.tape := by rw [bel1.tape]; exact hF
  go_wp2_with fail
  refine HU.out.mono ?_
  rintro e w2 ⟨rfl, bel2⟩
  have hs1 := bel1.size
  have hE2 := hE1.mono bel2.block
  have hF2 : F.answers w2.tape := by rw [bel2.tape]; exact hF1
  obtain ⟨s, hs⟩ : ∃ s, s = host ++ { data := #[58] } ++ { data := (Lib.repeatL [48] z).toArray } ++ { data := (Lib.decDigits n).toArray } := ⟨_, rfl⟩
  have hss : s.size ≤ 10000 := by
    rw [hs]
    simp only [ByteArray.size_append, ba_size, hrl, hnd', List.length_cons, List.length_nil]
    omega
  have hback : nameOf s = some (host, n) := name_back (host) s z n (by omega) (by rw [hs]; simp)
  have HBk := hide hback
  have HN := hide (name_walk F s hss v6 v7 w2 hF2 hE2)
  have bel12 := bel1.trans (bel2.mono hs1)
  clear HR HU hback hE hE1 bel1 bel2
  go_wp2_with fail
  rw [← hs]
  refine HN.out.mono ?_
  rintro e w3 ⟨h, m, ev, rfl, bel3, hend⟩
  rcases hend with ⟨hno, _⟩ | ⟨u, hu, rfl, rfl⟩
  · rw [HBk.out] at hno; cases hno
  · rw [HBk.out] at hu
    cases hu
    have belF := bel12.trans (bel3.mono (Nat.le_trans bel12.size (Nat.le_refl _)))
    have HB := hide (fun o => belF.alloc (o := o) belF.size)
    clear HN HBk bel3 bel12 belF
    go_wp2
    go_ret
    exact ⟨by simp, HB.out _⟩

theorem trip_walk (F : Interp) (host : ByteArray) (colon : Bool) (zs : Int) (n : Nat) (v6 v7 : Value) (w : World) (hF : F.answers w.tape) (hE : Errs w v6 v7) (htab : Lib.TabIs Ybaf.prog w "internal/strconv.uint64pow10" .u64 Lib.pow10Tab) (hz0 : 0 ≤ zs) (hz1 : zs ≤ 255) (hn : n < 18446744073709551616) :
    Calls Ybaf.prog 4 #[.string host, .bool colon, .int .u8 zs, .int .u64 n] w fun e w' => e = .returned (.bool true) ∧ Below w.heap.size w w' := by
  by_cases hl : host.size ≤ 4096
  · cases colon
    · exact trip_f F host zs n v6 v7 w hF hE htab hz0 hz1 hn hl
    · exact trip_t F host zs n v6 v7 w hF hE htab hz0 hz1 hn hl
  · have q1 : (4096 : Int) < host.size := by omega
    go_enter Ybaf.func4, Ybaf.ntmps4
    go_wp2
    go_ret
    exact ⟨rfl, Below.refl _ _⟩
end Go.Proofs.YbulkbzsuFmt
