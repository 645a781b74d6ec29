import Derived.Test.Qxb6603708aLaw
namespace Go.Proofs.Qxb6603708a
open Go.RowKit
set_option linter.unusedVariables false

theorem rule_main (s : ByteArray) (hs : s.size ≤ 1048576) (w : World) :
    Calls Try.prog 4 #[.string s] w fun e w' => e = .returned (.bool true) ∧ ∃ n, w' = w.drewN n := by
  rcases at_ways s with h | ⟨e, he⟩
  · exact law_L0 s hs h w
  · rcases first_in s 58 0 e with h | ⟨c, _, hce, hc1, hc2⟩
    · exact law_L1 s hs e he (fun j hj => h j (by omega) hj) w
    · have hc : FirstColon s c := ⟨hc1, fun j hj => hc2 j (by omega) hj⟩
      rcases first_in s 58 (c + 1) e with h | ⟨d, hcd, hde, hd1, hd2⟩
      · by_cases hsl : sl s c
        · exact law_AY s hs e he c hc hce (fun j h1 h2 => h j (by omega) h2) hsl w
        · exact law_AN s hs e he c hc hce (fun j h1 h2 => h j (by omega) h2) hsl w
      · by_cases hsl : sl s c
        · exact law_BY s hs e he c hc hce d (by omega) hde hd1 (fun j h1 h2 => hd2 j (by omega) h2) hsl w
        · exact law_BN s hs e he c hc hce d (by omega) hde hd1 (fun j h1 h2 => hd2 j (by omega) h2) hsl w
end Go.Proofs.Qxb6603708a
