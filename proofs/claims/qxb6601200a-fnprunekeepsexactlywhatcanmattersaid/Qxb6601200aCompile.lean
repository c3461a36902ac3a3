import Derived.Test.Qxb6601200aPre
import Derived.Test.Qxb6601200aRest
set_option linter.unusedSimpArgs false
set_option linter.unusedVariables false
namespace Go.Proofs.Qxb6601200a
open Go.RowKit



set_option maxRecDepth 100000 in
theorem compile_any (a ga : Option Addr) (n m cap gcap : Nat) (ps : List Pat) (gs : List Int) (w : World) (HN : Hid (ps.length = n)) (HM : Hid (gs.length = m)) (hn : n + tlen ps ≤ 4194304) (hm : m ≤ 1048576)
    (hp : Pats w a ps) (hg : Ints .i64 w ga gs) (hgs : ∀ i, i < m → -9223372036854775808 ≤ iat gs i ∧ iat gs i ≤ 65536) :
    Calls Try.prog 37 #[.slice a n cap, .slice ga m gcap] w fun e w' => AutoEnd w.heap.size n ps (.slice ga m gcap) gs e w' ∧ Below w.heap.size w w' := by
  have HT : Hid (tlen ps = tlenTo ps n) := by show _ = _; unfold tlen; rw [HN.out]
  exact compile_pre a ga n m cap gcap ps gs w _ HN hn hp (compile_rest a ga n m cap gcap ps gs w HM hm hp hg hgs HN hn HT)
end Go.Proofs.Qxb6601200a
