/-
  fmt.Errorf BY ITS CONTRACTS at the three formats of this law's road (the stop 'fmt.errorf' answers by F): a new error, whatever its text.
-/
import Derived.Test.YbulkfsaFmtFacts
import Derived.WalkKit
import Derived.WalkSpells
import Derived.WalkLawsBesides
import Derived.RowKitTokens
namespace Go.Proofs.YbulkfsaFmt
open Go.RowKit Go.Extern.Stop Go.Stop Go.Extern
attribute [local go_sem] call13 guardOk fmt0 fmt0r fmt0z fmt0zr fmt1 fmt1r fmt1z fmt1zr fmt2 fmt2r fmt2z fmt2zr op9_115 op9_115w op9_113w strict9 op3_100 op3_100w strict3 ptr34 elem34 isError34 ptr45 elem45 isError45

set_option maxRecDepth 100000 in
theorem errorf_q (F : Interp) (b : Nat) (nm s : ByteArray) (a : Addr) (w : World) (hF : F.answers w.tape)
    (h0 : w.cell? ⟨b, 0, none⟩ = some (.iface 9 (.string nm))) (h1 : w.cell? ⟨b, 1, none⟩ = some (.iface 34 (.pointer (some a)))) (hs : w.cell? a = some (.string s)) :
    Calls Ybaf.prog 10 #[.string ⟨fb0.toArray⟩, .slice (some ⟨b, 0, none⟩) 2 2] w fun e w' => e = .returned (.iface 45 (.pointer (some ⟨w.heap.size, 0, none⟩))) ∧
      ∃ t : ByteArray, w' = (w.alloc (.cells #[.string t, .iface 34 (.pointer (some a))] 88)).drew := by
  have hF' := answers_open hF
  have hop := opPlain34_119w "fmt.errorf" a s _ hs
  simp only [fb0]
  go_enter Ybaf.func10, Ybaf.ntmps10
  go_wp2
  go_ret
  exact ⟨rfl, _, rfl⟩

set_option maxRecDepth 100000 in
theorem errorf_p (F : Interp) (b : Nat) (nm s : ByteArray) (n : Int) (a : Addr) (w : World) (hF : F.answers w.tape)
    (h0 : w.cell? ⟨b, 0, none⟩ = some (.iface 9 (.string nm))) (h1 : w.cell? ⟨b, 1, none⟩ = some (.iface 3 (.int .i64 n))) (h2 : w.cell? ⟨b, 2, none⟩ = some (.iface 34 (.pointer (some a)))) (hs : w.cell? a = some (.string s)) :
    Calls Ybaf.prog 10 #[.string ⟨fb1.toArray⟩, .slice (some ⟨b, 0, none⟩) 3 3] w fun e w' => e = .returned (.iface 45 (.pointer (some ⟨w.heap.size, 0, none⟩))) ∧
      ∃ t : ByteArray, w' = (w.alloc (.cells #[.string t, .iface 34 (.pointer (some a))] 88)).drew := by
  have hF' := answers_open hF
  have hop := opPlain34_119w "fmt.errorf" a s _ hs
  simp only [fb1]
  go_enter Ybaf.func10, Ybaf.ntmps10
  go_wp2
  go_ret
  exact ⟨rfl, _, rfl⟩

set_option maxRecDepth 100000 in
theorem errorf_n (F : Interp) (b : Nat) (nm : ByteArray) (m n : Int) (w : World) (hF : F.answers w.tape)
    (h0 : w.cell? ⟨b, 0, none⟩ = some (.iface 9 (.string nm))) (h1 : w.cell? ⟨b, 1, none⟩ = some (.iface 3 (.int .i64 m))) (h2 : w.cell? ⟨b, 2, none⟩ = some (.iface 3 (.int .i64 n))) :
    Calls Ybaf.prog 10 #[.string ⟨fb2.toArray⟩, .slice (some ⟨b, 0, none⟩) 3 3] w fun e w' => e = .returned (.iface 34 (.pointer (some ⟨w.heap.size, 0, none⟩))) ∧
      ∃ t : ByteArray, w' = (w.alloc (.cells #[.string t] 36)).drew := by
  have hF' := answers_open hF
  simp only [fb2]
  go_enter Ybaf.func10, Ybaf.ntmps10
  go_wp2
  go_ret
  exact ⟨rfl, _, rfl⟩
end Go.Proofs.YbulkfsaFmt
