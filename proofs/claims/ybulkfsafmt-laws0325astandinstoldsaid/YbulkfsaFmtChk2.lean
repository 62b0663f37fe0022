/-
  (Algorithm).CheckNodeCount (7), New (9) entered in place, over whatever world: the ways on which the law's build closure is called.
-/
import Derived.Test.YbulkfsaFmtChk
namespace Go.Proofs.YbulkfsaFmt
open Go.RowKit Go.Extern.Stop Go.Stop Go.Extern
attribute [local go_sem] nil26 nil25 fun26 fun25 sl29

set_option maxRecDepth 100000 in
set_option maxHeartbeats 1000000 in
/-- The build closure fails: its error is handed on. -/
theorem chk_fail (b1 b2 b3 b4 b5 : Nat) (nm pn : ByteArray) (mx n pr : Int) (cf : Value) (x : Addr) (W : World) (n12 : b1 ≠ b2) (n13 : b1 ≠ b3) (n23 : b2 ≠ b3) (n14 : b1 ≠ b4) (n24 : b2 ≠ b4) (n34 : b3 ≠ b4) (n15 : b1 ≠ b5) (n25 : b2 ≠ b5) (n35 : b3 ≠ b5)
    (l1 : b1 < W.heap.size) (l2 : b2 < W.heap.size) (l3 : b3 < W.heap.size) (l4 : b4 < W.heap.size) (l5 : b5 < W.heap.size)
    (h1 : W.cell? ⟨b1, 0, none⟩ = some (.int .i64 0)) (h2 : W.cell? ⟨b2, 0, none⟩ = some (.bool true)) (h3 : W.cell? ⟨b3, 0, none⟩ = some (.int .i64 0)) (h4 : W.cell? ⟨b4, 0, none⟩ = some (.bool true)) (h5 : W.cell? ⟨b5, 0, none⟩ = some (.iface 34 (.pointer (some x))))
    (f1 : W.frozen? ⟨b1, 0, none⟩ = false) (f2 : W.frozen? ⟨b2, 0, none⟩ = false) (f3 : W.frozen? ⟨b3, 0, none⟩ = false) (hpn : pn.toList.isEmpty = false ∨ (pr != 0) = false) :
    Calls Ybaf.prog 7 #[.agg #[.string nm, .string pn, .int .i64 0, .bool false, .int .i64 mx, cf, .func (.func 5) #[] #[.pointer (some ⟨b1, 0, none⟩), .pointer (some ⟨b2, 0, none⟩), .pointer (some ⟨b3, 0, none⟩), .pointer (some ⟨b4, 0, none⟩), .pointer (some ⟨b5, 0, none⟩)]], .int .i64 n, .int .i64 pr] W fun e w' =>
      e = .returned (.iface 34 (.pointer (some x))) ∧ ∃ c1 c2 : Array Value,
        w' = (((((W.setCell ⟨b1, 0, none⟩ (.int .i64 1)).setCell ⟨b2, 0, none⟩ (.bool true)).setCell ⟨b3, 0, none⟩ (.int .i64 pr)).alloc (.cells c1 28)).alloc (.cells c2 28)).drew := by
  have hcond : pn.toList.isEmpty = false ∨ (pn.toList.isEmpty = true ∧ (pr != 0) = false) := by
    rcases hpn with h | h
    · exact Or.inl h
    · cases hq : pn.toList.isEmpty
      · exact Or.inl rfl
      · exact Or.inr ⟨rfl, h⟩
  clear hpn
  rcases hcond with g1 | ⟨g1, g2⟩
  all_goals
    go_enter Ybaf.func7, Ybaf.ntmps7
    go_wp2_with (first
      | (go_at_call 5; refine (clo5_fail b1 b2 b3 b4 b5 pr x _ n12 n13 n23 n14 n24 n34 n15 n25 n35 (cell_a2 l1 h1) (cell_a2 l2 h2) (cell_a2 l3 h3) (cell_a2 l4 h4) (cell_a2 l5 h5) (fr_a2 f1) (fr_a2 f2) (fr_a2 f3)).mono ?_; rintro e w' ⟨rfl, rfl⟩)
      | (go_at_call 9; go_in))
    go_ret
    exact ⟨rfl, _, _, rfl⟩

set_option maxRecDepth 100000 in
set_option maxHeartbeats 1000000 in
/-- The build closure answers, no room check: nil. -/
theorem chk_noroom (b1 b2 b3 b4 b5 : Nat) (nm pn : ByteArray) (mx n pr : Int) (W : World) (n12 : b1 ≠ b2) (n13 : b1 ≠ b3) (n23 : b2 ≠ b3) (n14 : b1 ≠ b4) (n24 : b2 ≠ b4) (n34 : b3 ≠ b4)
    (l1 : b1 < W.heap.size) (l2 : b2 < W.heap.size) (l3 : b3 < W.heap.size) (l4 : b4 < W.heap.size)
    (h1 : W.cell? ⟨b1, 0, none⟩ = some (.int .i64 0)) (h2 : W.cell? ⟨b2, 0, none⟩ = some (.bool true)) (h3 : W.cell? ⟨b3, 0, none⟩ = some (.int .i64 0)) (h4 : W.cell? ⟨b4, 0, none⟩ = some (.bool false))
    (f1 : W.frozen? ⟨b1, 0, none⟩ = false) (f2 : W.frozen? ⟨b2, 0, none⟩ = false) (f3 : W.frozen? ⟨b3, 0, none⟩ = false) (hpn : pn.toList.isEmpty = false ∨ (pr != 0) = false) (hn : ¬ mx < n) :
    Calls Ybaf.prog 7 #[.agg #[.string nm, .string pn, .int .i64 0, .bool false, .int .i64 mx, .nilFunc, .func (.func 5) #[] #[.pointer (some ⟨b1, 0, none⟩), .pointer (some ⟨b2, 0, none⟩), .pointer (some ⟨b3, 0, none⟩), .pointer (some ⟨b4, 0, none⟩), .pointer (some ⟨b5, 0, none⟩)]], .int .i64 n, .int .i64 pr] W fun e w' =>
      e = .returned .nilIface ∧ ∃ c1 c2 : Array Value,
        w' = ((((W.setCell ⟨b1, 0, none⟩ (.int .i64 1)).setCell ⟨b2, 0, none⟩ (.bool true)).setCell ⟨b3, 0, none⟩ (.int .i64 pr)).alloc (.cells c1 28)).alloc (.cells c2 28) := by
  have hcond : pn.toList.isEmpty = false ∨ (pn.toList.isEmpty = true ∧ (pr != 0) = false) := by
    rcases hpn with h | h
    · exact Or.inl h
    · cases hq : pn.toList.isEmpty
      · exact Or.inl rfl
      · exact Or.inr ⟨rfl, h⟩
  clear hpn
  rcases hcond with g1 | ⟨g1, g2⟩
  all_goals
    go_enter Ybaf.func7, Ybaf.ntmps7
    go_wp2_with (first
      | (go_at_call 5; refine (clo5_ok b1 b2 b3 b4 b5 pr _ n12 n13 n23 n14 n24 n34 (cell_a2 l1 h1) (cell_a2 l2 h2) (cell_a2 l3 h3) (cell_a2 l4 h4) (fr_a2 f1) (fr_a2 f2) (fr_a2 f3)).mono ?_; rintro e w' ⟨rfl, rfl⟩)
      | (go_at_call 9; go_in))
    go_ret
    exact ⟨rfl, _, _, rfl⟩

set_option maxRecDepth 100000 in
set_option maxHeartbeats 1000000 in
/-- The build closure answers, n is above the most: fmt.Errorf. -/
theorem chk_over (F : Interp) (b1 b2 b3 b4 b5 : Nat) (nm pn : ByteArray) (mx n pr : Int) (cf : Value) (W : World) (hF : F.answers W.tape) (n12 : b1 ≠ b2) (n13 : b1 ≠ b3) (n23 : b2 ≠ b3) (n14 : b1 ≠ b4) (n24 : b2 ≠ b4) (n34 : b3 ≠ b4)
    (l1 : b1 < W.heap.size) (l2 : b2 < W.heap.size) (l3 : b3 < W.heap.size) (l4 : b4 < W.heap.size)
    (h1 : W.cell? ⟨b1, 0, none⟩ = some (.int .i64 0)) (h2 : W.cell? ⟨b2, 0, none⟩ = some (.bool true)) (h3 : W.cell? ⟨b3, 0, none⟩ = some (.int .i64 0)) (h4 : W.cell? ⟨b4, 0, none⟩ = some (.bool false))
    (f1 : W.frozen? ⟨b1, 0, none⟩ = false) (f2 : W.frozen? ⟨b2, 0, none⟩ = false) (f3 : W.frozen? ⟨b3, 0, none⟩ = false) (hpn : pn.toList.isEmpty = false ∨ (pr != 0) = false) (hn : mx < n) :
    Calls Ybaf.prog 7 #[.agg #[.string nm, .string pn, .int .i64 0, .bool false, .int .i64 mx, cf, .func (.func 5) #[] #[.pointer (some ⟨b1, 0, none⟩), .pointer (some ⟨b2, 0, none⟩), .pointer (some ⟨b3, 0, none⟩), .pointer (some ⟨b4, 0, none⟩), .pointer (some ⟨b5, 0, none⟩)]], .int .i64 n, .int .i64 pr] W fun e w' =>
      e = .returned (.iface 34 (.pointer (some ⟨W.heap.size + 1 + 1 + 1, 0, none⟩))) ∧ ∃ (c1 c2 c3 : Array Value) (t : ByteArray),
        w' = ((((((((W.setCell ⟨b1, 0, none⟩ (.int .i64 1)).setCell ⟨b2, 0, none⟩ (.bool true)).setCell ⟨b3, 0, none⟩ (.int .i64 pr)).alloc (.cells c1 28)).alloc (.cells c2 28)).alloc (.cells c3 20)).alloc (.cells #[.string t] 36))).drew := by
  have hcond : pn.toList.isEmpty = false ∨ (pn.toList.isEmpty = true ∧ (pr != 0) = false) := by
    rcases hpn with h | h
    · exact Or.inl h
    · cases hq : pn.toList.isEmpty
      · exact Or.inl rfl
      · exact Or.inr ⟨rfl, h⟩
  clear hpn
  rcases hcond with g1 | ⟨g1, g2⟩
  all_goals
    go_enter Ybaf.func7, Ybaf.ntmps7
    go_wp2_with (first
      | (go_at_call 5; refine (clo5_ok b1 b2 b3 b4 b5 pr _ n12 n13 n23 n14 n24 n34 (cell_a2 l1 h1) (cell_a2 l2 h2) (cell_a2 l3 h3) (cell_a2 l4 h4) (fr_a2 f1) (fr_a2 f2) (fr_a2 f3)).mono ?_; rintro e w' ⟨rfl, rfl⟩)
      | (go_at_call 10; refine (errorf_n F _ nm mx n _ ?hF ?h0 ?h1 ?h2).mono ?_; (case hF => exact hF); (case h0 => go_simp); (case h1 => go_simp); (case h2 => go_simp); rintro e w' ⟨rfl, t, rfl⟩)
      | (go_at_call 9; go_in))
    go_ret
    exact ⟨rfl, _, _, _, _, rfl⟩
end Go.Proofs.YbulkfsaFmt
