import Derived.Test.YoefewW6a
import Derived.Test.YoefewW6b
import Derived.Test.YoefewW6c
import Derived.Test.YoefewW6d
namespace Go.Proofs.Yoefew
open Go.RowKit Go.Maps

theorem walk6 {w : World} {a0 a1 a2 a3 : Option Addr} {ss0 ss1 ss2 ss3 : List ByteArray} {cap0 cap1 cap2 cap3 : Nat} (h0 : StrsAt w a0 ss0) (h1 : StrsAt w a1 ss1) (h2 : StrsAt w a2 ss2) (h3 : StrsAt w a3 ss3)
    (l0 : ss0.length ≤ maxLen) (l1 : ss1.length ≤ maxLen) (l2 : ss2.length ≤ maxLen) (l3 : ss3.length ≤ maxLen) :
    Calls Efeg.prog 6 #[.slice a0 ss0.length cap0, .slice a1 ss1.length cap1, .slice a2 ss2.length cap2, .slice a3 ss3.length cap3] w fun e w' => e = .returned (.bool true) ∧ Below w.heap.size w w' := by
  have pos : ∀ n : Nat, (0 : Int) < n → ((n : Int) == 0) = false := fun n h => by simp; omega
  have zer : ∀ n : Nat, (n : Int) ≤ 0 → ((n : Int) == 0) = true := fun n h => by simp; omega
  by_cases p1 : (0 : Int) < ss1.length
  · by_cases p2 : (0 : Int) < ss2.length
    · exact walk6a h0 h1 h2 h3 l0 l1 l2 l3 p1 (pos _ p1) p2 (pos _ p2)
    · exact walk6b h0 h1 h2 h3 l0 l1 l2 l3 p1 (pos _ p1) (by omega) (zer _ (by omega))
  · by_cases p2 : (0 : Int) < ss2.length
    · exact walk6c h0 h1 h2 h3 l0 l1 l2 l3 (by omega) (zer _ (by omega)) p2 (pos _ p2)
    · exact walk6d h0 h1 h2 h3 l0 l1 l2 l3 (by omega) (zer _ (by omega)) (by omega) (zer _ (by omega))
end Go.Proofs.Yoefew
