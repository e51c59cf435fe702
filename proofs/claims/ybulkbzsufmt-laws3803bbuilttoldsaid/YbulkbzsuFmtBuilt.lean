import Derived.Test.YbulkbzsuFmtBltN
import Derived.Test.YbulkbzsuFmtBltL
import Derived.Test.YbulkbzsuFmtBltWN
import Derived.Test.YbulkbzsuFmtBltWL
namespace Go.Proofs.YbulkbzsuFmt
open Go.RowKit Go.Extern.Stop Go.Stop Go.Extern

/-- The law's walk: all four ways. -/
theorem built_walk (F : Interp) (a0 a3 a4 a5 : Addr) (t0 t3 t4 t5 : ByteArray) (bv : Value) (tail : List UInt8) (form es : Int) (wrong useL : Bool) (n p lim : Nat) (w : World) (hF : F.answers w.tape) (hS : Sent a0 a3 a4 a5 t0 t3 t4 t5 w) (hb : BytesIn w bv tail)
    (hf0 : 0 ≤ form) (hf1 : form ≤ 255) (he0 : 0 ≤ es) (he1 : es ≤ 255) (hn : n < 18446744073709551616) (hp : p < 18446744073709551616) (hlm : lim < 18446744073709551616) :
    Calls Ybaf.prog 5 #[.int .u8 form, .bool wrong, .int .u64 n, .int .u64 p, bv, .int .u8 es, .bool useL, .int .u64 lim] w fun e w' => e = .returned (.bool true) ∧ Below w.heap.size w w' := by
  cases wrong <;> cases useL
  · exact built_ff F a0 a3 a4 a5 t0 t3 t4 t5 bv tail form es n p lim w hF hS hb hf0 hf1 he0 he1 hn hp hlm
  · exact built_ft F a0 a3 a4 a5 t0 t3 t4 t5 bv tail form es n p lim w hF hS hb hf0 hf1 he0 he1 hn hp hlm
  · exact built_tf F a0 a3 a4 a5 t0 t3 t4 t5 bv tail form es n p lim w hF hS hb hf0 hf1 he0 he1 hn hp hlm
  · exact built_tt F a0 a3 a4 a5 t0 t3 t4 t5 bv tail form es n p lim w hF hS hb hf0 hf1 he0 he1 hn hp hlm
end Go.Proofs.YbulkbzsuFmt
