import Derived.Test.Qxb6616301aFmtSmall
namespace Go.Proofs.Qxb6616301aFmt
open Go.RowKit Go.Extern.Stop Go.Stop Go.Extern

/-- Some bool. -/
def SomeBool (e : Ending) : Prop := ∃ b, e = .returned (.bool b)
set_option maxHeartbeats 2000000 in
theorem bytes16 (s0 s1 s2 : ByteArray) (n3 n4 : Int) (s5 s6 s7 : ByteArray) (n8 : Int) (w : World) (_h0 : s0.size ≤ 9223372036854775807) (_h1 : s1.size ≤ 9223372036854775807) (_h2 : s2.size ≤ 9223372036854775807) (_h5 : s5.size ≤ 9223372036854775807) (_h6 : s6.size ≤ 9223372036854775807) (_h7 : s7.size ≤ 9223372036854775807) :
    Calls Tryf.prog 16 #[.string s0, .string s1, .string s2, .int .i64 n3, .int .i64 n4, .string s5, .string s6, .string s7, .int .i64 n8] w fun e w' => SomeBool e ∧ w = w' := by
  go_enter Tryf.func16, Tryf.ntmps16
  go_wp2_with fail
  all_goals
    go_ret
    exact ⟨⟨_, rfl⟩, rfl⟩

set_option maxHeartbeats 2000000 in
theorem bytes5 (s0 s1 : ByteArray) (n2 : Int) (b3 : Bool) (s4 s5 s6 : ByteArray) (n7 : Int) (w : World) (_h0 : s0.size ≤ 9223372036854775807) (_h1 : s1.size ≤ 9223372036854775807) (_h4 : s4.size ≤ 9223372036854775807) (_h5 : s5.size ≤ 9223372036854775807) (_h6 : s6.size ≤ 9223372036854775807) :
    Calls Tryf.prog 5 #[.string s0, .string s1, .int .i64 n2, .bool b3, .string s4, .string s5, .string s6, .int .i64 n7] w fun e w' => SomeBool e ∧ w = w' := by
  go_enter Tryf.func5, Tryf.ntmps5
  go_wp2_with fail
  all_goals
    go_ret
    exact ⟨⟨_, rfl⟩, rfl⟩

end Go.Proofs.Qxb6616301aFmt
