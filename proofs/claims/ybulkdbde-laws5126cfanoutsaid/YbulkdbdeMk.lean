import Derived.Test.YbulkdbdeProg
import Derived.Test.YbulkdbdeKit
import Derived.KernelRfl
namespace Go.Proofs.Ybulkdbde
open Go.RowKit

set_option maxHeartbeats 1600000 in
set_option maxRecDepth 100000 in
theorem mk_any (j st d wt ra : Int) (t m u r k : ByteArray) (w : World) :
    Calls Yba.prog 11 #[.int .i64 j, .string t, .string m, .string u, .string r, .string k, .int .i64 st, .int .i64 d, .int .i64 wt, .int .i64 ra] w fun e w' =>
      e = .returned (.agg #[.string t, .int .i64 j, .string m, .string u, .int .i64 (wrap64 (st + j)), .string k, .int .i64 d, .int .i64 wt, .int .i64 ra, .string r, .string ⟨#[]⟩, .string ⟨#[]⟩]) ∧ Kept (fun _ => False) w w' := by
  go_enter Yba.func11, Yba.ntmps11
  go_wp2
  refine bodyPost_ret (v := .agg #[.string t, .int .i64 j, .string m, .string u, .int .i64 (wrap64 (st + j)), .string k, .int .i64 d, .int .i64 wt, .int .i64 ra, .string r, .string ⟨#[]⟩, .string ⟨#[]⟩]) (by simp [results, Yba.results11, go_sem]) rfl ⟨rfl, ?_⟩
  repeat (first | exact Kept.refl _ _ | refine Kept.alloc ?_ _ | refine Kept.drew ?_ | refine Kept.set ?_ (fun h => absurd h (by simp)) _)

set_option maxHeartbeats 1600000 in
set_option maxRecDepth 100000 in
theorem same_any (s0 s2 s3 s5 s9 s10 s11 : ByteArray) (e1 e4 e6 e7 e8 : Int) (w : World) :
    Calls Yba.prog 12 #[.agg #[.string s0, .int .i64 e1, .string s2, .string s3, .int .i64 e4, .string s5, .int .i64 e6, .int .i64 e7, .int .i64 e8, .string s9, .string s10, .string s11], .agg #[.string s0, .int .i64 e1, .string s2, .string s3, .int .i64 e4, .string s5, .int .i64 e6, .int .i64 e7, .int .i64 e8, .string s9, .string s10, .string s11]] w fun e w' =>
      e = .returned (.bool true) ∧ Kept (fun _ => False) w w' := by
  go_enter Yba.func12, Yba.ntmps12
  go_wp2
  go_ret
  refine ⟨rfl, ?_⟩
  repeat (first | exact Kept.refl _ _ | refine Kept.alloc ?_ _ | refine Kept.drew ?_ | refine Kept.set ?_ (fun h => absurd h (by simp)) _)
end Go.Proofs.Ybulkdbde
