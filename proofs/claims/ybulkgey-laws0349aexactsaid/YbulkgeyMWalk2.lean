/- walk: the iterator's contract. -/
import Derived.Test.YbulkgeyMWalk
import Derived.Test.YbulkgeyMUp
namespace Go.Proofs.Ybulkgey
open Go.RowKit
set_option linter.unusedVariables false

theorem walk_seq (w W0 : World) (B ab ao bb bo : Nat) (f d : Nat → Int) (hA : ClkAt W0 ab ao (NA f 4) (CA f 4)) (hB : ClkAt W0 bb bo (NA d 4) (CA d 4))
    (pa pb : Option Addr) (ca cb : Nat) (hpa : W0.cell? ⟨ab, ao + 2, none⟩ = some (.slice pa (cn f 4) ca)) (hpb : W0.cell? ⟨bb, bo + 2, none⟩ = some (.slice pb (cn d 4) cb)) (hok : OKW W0 B ab ao bb bo w) :
    SeqSt Yba.prog 74 #[.pointer (some ⟨B, 0, none⟩), .pointer (some ⟨B + 1, 0, none⟩)] (fun x : Value × Value => #[x.1, x.2]) W0.heap.size B (Stp f d pa ca pb cb) 0 (fun s => s ≤ 4 ∧ cn f s = cn f 4 ∧ cn d s = cn d 4) w := by
  intro n l J Jx W hbW hJ hJx hY h0
  exact walk1_in n l W0 W B ab ao bb bo f d hA hB pa pb ca cb hpa hpb J Jx hJ ⟨hok.1.trans (hbW.mono hok.1.size), (hbW.block _ (block_lt hok.2.1)).trans hok.2.1, (hbW.block _ (block_lt hok.2.2)).trans hok.2.2⟩ hY h0

set_option maxRecDepth 100000 in
theorem walk_any (w : World) (a b : Option Addr) :
    Calls Yba.prog 60 #[.pointer a, .pointer b] w fun e w' => e = .returned (.func (.func 74) #[] #[.pointer (some ⟨w.heap.size, 0, none⟩), .pointer (some ⟨w.heap.size + 1, 0, none⟩)]) ∧ w' = (w.alloc (.cells #[.pointer a] 71)).alloc (.cells #[.pointer b] 71) := by
  go_enter Yba.func60, Yba.ntmps60
  go_wp2
  go_ret
  exact ⟨rfl, rfl⟩
end Go.Proofs.Ybulkgey
