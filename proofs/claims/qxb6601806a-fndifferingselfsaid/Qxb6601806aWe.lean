import Derived.Test.Qxb6601806aWd
import Derived.Laws.BytesArg
namespace Go.Proofs.Qxb6601806a
open Go.RowKit

def strOf (n : Nat) (f : Nat → Int) : ByteArray := strOfNums ((List.range n).map f)

theorem ByteRow.convert {w : World} {L : Nat} {v : Value} {n : Nat} {f : Nat → Int} (h : ByteRow w L v n f) :
    (convert 33 9 v).run Try.prog w = .ok (.string (strOf n f)) w := by
  rcases h with ⟨rfl, rfl⟩ | ⟨b, o, sp, c, rfl, hsp, _, hc⟩
  · exact run_convert_bytes_nil (P := Try.prog) w 33 5 Try.underlying33 Try.underlying5 0 0 9 Try.underlying9
  · by_cases hn : 0 < n
    · obtain rfl := hsp hn
      refine run_convert_bytes_arg (P := Try.prog) w 33 5 Try.underlying33 Try.underlying5 b o n c ((List.range n).map f) (by simp) ?_ 9 Try.underlying9
      intro i hi
      rw [hc i hi]
      simp [List.getD, hi]
    · obtain rfl : n = 0 := by omega
      rw [run_convert_bytes_string w 33 9 5 _ 0 c Try.underlying33 Try.underlying5 Try.underlying9, run_bytesToString w _ 0 c [] rfl]
      rfl

set_option maxHeartbeats 400000 in
theorem equal_walk (v v' : Value) (s : ByteArray) (w : World) (h : (convert 33 9 v).run Try.prog w = .ok (.string s) w) (h' : (convert 33 9 v').run Try.prog w = .ok (.string s) w) :
    Calls Try.prog 37 #[v, v'] w fun e w' => e = .returned (.bool true) ∧ w' = w := by
  go_enter Try.func37, Try.ntmps37
  go_wp2
  go_ret
  exact ⟨rfl, rfl⟩

theorem equal_any (w : World) (L L' : Nat) (v v' : Value) (n : Nat) (f : Nat → Int) (h : ByteRow w L v n f) (h' : ByteRow w L' v' n f) :
    Calls Try.prog 37 #[v, v'] w fun e w' => e = .returned (.bool true) ∧ w' = w := equal_walk v v' _ w h.convert h'.convert

end Go.Proofs.Qxb6601806a
