/- slices.symMergeCmpFunc whole; slices.stableCmpFunc; slices.SortStableFunc -/
import Derived.Test.Qxb6002619aSym1
import Derived.Test.Qxb6002619aSym2
import Derived.Test.Qxb6002619aSymA
import Derived.Test.Qxb6002619aSymB
namespace Go.Proofs.Qxb6002619a
open Go.ChangeShapes Go.WideShapes Go.ChangeAt Go.RowKit
set_option linter.unusedVariables false
set_option linter.unusedSimpArgs false

theorem sym_any (b n c : Nat) (hn : n ≤ 4096) : ∀ (D x m y : Nat) (F : Nat → Dg) (w : World), y - x < D → Mem w b n F → x < m → m < y → y ≤ n → PosD n F → Srt F x m → Srt F m y →
    Calls Try.prog 26 #[.slice (some ⟨b, 0, none⟩) n c, .int .i64 (x : Int), .int .i64 (m : Int), .int .i64 (y : Int), .func (.func 18) #[] #[]] w fun e w' => IsPost w b n x y F e w'
  | 0, x, m, y, F, w, h, _, _, _, _, _, _, _ => absurd h (Nat.not_lt_zero _)
  | D + 1, x, m, y, F, w, h, hM, h1, h2, h3, hP, s1, s2 => by
    by_cases c1 : m = x + 1
    · exact sym_one b n c x m y F w hn (hide hM) c1 h2 h3 (hide hP) (hide s2)
    · by_cases c2 : y = m + 1
      · exact sym_last b n c x m y F w hn (hide hM) (by omega) c2 h3 (hide hP) (hide s1)
      · have IH := hide (fun (x' m' y' : Nat) (F' : Nat → Dg) (w' : World) (hd : y' - x' < y - x) => sym_any b n c hn D x' m' y' F' w' (by omega))
        by_cases c3 : (x + y) / 2 < m
        · exact sym_recA b n c x m y F w hn (hide hM) (by omega) (by omega) h3 (hide hP) (hide s1) (hide s2) ((x + y) / 2) rfl c3 IH
        · exact sym_recB b n c x m y F w hn (hide hM) (by omega) (by omega) h3 (hide hP) (hide s1) (hide s2) ((x + y) / 2) rfl (by omega) IH
end Go.Proofs.Qxb6002619a
