/-
  THE WALK of clockwise.LawS0325AStandIns, WHOLE: whatever the nine arguments, for every F: true.
-/
import Derived.Test.YbulkfsaFmtLaw1
import Derived.Test.YbulkfsaFmtLaw2
import Derived.Test.YbulkfsaFmtLaw3
import Derived.Test.YbulkfsaFmtLaw4
namespace Go.Proofs.YbulkfsaFmt
open Go.RowKit Go.Extern.Stop Go.Stop Go.Extern

theorem law_walk (F : Interp) (nm pn : ByteArray) (mx n pr : Int) (hb bf hr rf : Bool) (a : Addr) (s : ByteArray) (w : World) (hF : F.answers w.tape) (h0 : 0 < w.heap.size) (ha : a.block < w.heap.size)
    (hg : w.cell? ⟨0, 0, none⟩ = some (.iface 34 (.pointer (some a)))) (hs : w.cell? a = some (.string s)) :
    Calls Ybaf.prog 3 #[.string nm, .string pn, .int .i64 mx, .int .i64 n, .int .i64 pr, .bool hb, .bool bf, .bool hr, .bool rf] w fun e w' => e = .returned (.bool true) ∧ Grown w w' := by
  cases hb
  · cases hr
    · exact law_nobuild_false F nm pn mx n pr bf rf a s w hF h0 ha hg hs
    · exact law_nobuild_true F nm pn mx n pr bf rf a s w hF h0 ha hg hs
  by_cases hc : pn.toList.isEmpty = true ∧ (pr != 0) = true
  · cases hr
    · exact law_param_false F nm pn mx n pr bf rf a s w hF h0 ha hg hs hc.1 hc.2
    · exact law_param_true F nm pn mx n pr bf rf a s w hF h0 ha hg hs hc.1 hc.2
  have hpn : pn.toList.isEmpty = false ∨ (pn.toList.isEmpty = true ∧ (pr != 0) = false) := by
    cases h1 : pn.toList.isEmpty
    · exact Or.inl rfl
    · cases h2 : (pr != 0)
      · exact Or.inr ⟨rfl, rfl⟩
      · exact absurd ⟨h1, h2⟩ hc
  cases bf
  · by_cases hn : mx < n
    · cases hr
      · exact law_over_false F nm pn mx n pr rf w hF hpn hn
      · exact law_over_true F nm pn mx n pr rf w hF hpn hn
    · cases hr
      · exact law_noroom nm pn mx n pr rf w hpn hn
      · cases rf
        · exact law_roomok nm pn mx n pr w hpn hn
        · exact law_roomfail nm pn mx n pr w hpn hn
  · cases hr
    · exact law_fail_false nm pn mx n pr rf w hpn
    · exact law_fail_true nm pn mx n pr rf w hpn
end Go.Proofs.YbulkfsaFmt
