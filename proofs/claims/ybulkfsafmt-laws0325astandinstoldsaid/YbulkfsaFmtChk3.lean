/-
  (Algorithm).CheckNodeCount (7), New (9) entered in place, over whatever world: the ways on which both of the law's closures are called.
-/
import Derived.Test.YbulkfsaFmtChk
namespace Go.Proofs.YbulkfsaFmt
open Go.RowKit Go.Extern.Stop Go.Stop Go.Extern
attribute [local go_sem] nil26 nil25 fun26 fun25 sl29

/-- What the room closure's captured variables hold. -/
structure Caps (d1 d2 d3 d4 d5 : Nat) (v : Bool) (x : Addr) (W : World) : Prop where
  m12 : d1 ≠ d2
  m13 : d1 ≠ d3
  m14 : d1 ≠ d4
  m15 : d1 ≠ d5
  m23 : d2 ≠ d3
  m24 : d2 ≠ d4
  m25 : d2 ≠ d5
  m34 : d3 ≠ d4
  m35 : d3 ≠ d5
  u1 : d1 < W.heap.size
  u2 : d2 < W.heap.size
  u3 : d3 < W.heap.size
  u4 : d4 < W.heap.size
  u5 : d5 < W.heap.size
  k1 : W.cell? ⟨d1, 0, none⟩ = some (.int .i64 0)
  k2 : W.cell? ⟨d2, 0, none⟩ = some (.int .i64 0)
  k3 : W.cell? ⟨d3, 0, none⟩ = some (.int .i64 0)
  k4 : W.cell? ⟨d4, 0, none⟩ = some (.bool v)
  k5 : W.cell? ⟨d5, 0, none⟩ = some (.iface 34 (.pointer (some x)))
  r1 : W.frozen? ⟨d1, 0, none⟩ = false
  r2 : W.frozen? ⟨d2, 0, none⟩ = false
  r3 : W.frozen? ⟨d3, 0, none⟩ = false

set_option maxRecDepth 100000 in
set_option maxHeartbeats 1000000 in
/-- Both closures answer: nil. -/
theorem chk_roomok (b1 b2 b3 b4 b5 d1 d2 d3 d4 d5 : Nat) (nm pn : ByteArray) (mx n pr : Int) (x : Addr) (W : World) (n12 : b1 ≠ b2) (n13 : b1 ≠ b3) (n23 : b2 ≠ b3) (n14 : b1 ≠ b4) (n24 : b2 ≠ b4) (n34 : b3 ≠ b4)
    (l1 : b1 < W.heap.size) (l2 : b2 < W.heap.size) (l3 : b3 < W.heap.size) (l4 : b4 < W.heap.size)
    (h1 : W.cell? ⟨b1, 0, none⟩ = some (.int .i64 0)) (h2 : W.cell? ⟨b2, 0, none⟩ = some (.bool true)) (h3 : W.cell? ⟨b3, 0, none⟩ = some (.int .i64 0)) (h4 : W.cell? ⟨b4, 0, none⟩ = some (.bool false))
    (f1 : W.frozen? ⟨b1, 0, none⟩ = false) (f2 : W.frozen? ⟨b2, 0, none⟩ = false) (f3 : W.frozen? ⟨b3, 0, none⟩ = false) (hpn : pn.toList.isEmpty = false ∨ (pr != 0) = false) (hn : ¬ mx < n)
    (D : Caps d1 d2 d3 d4 d5 false x (((W.setCell ⟨b1, 0, none⟩ (.int .i64 1)).setCell ⟨b2, 0, none⟩ (.bool true)).setCell ⟨b3, 0, none⟩ (.int .i64 pr))) :
    Calls Ybaf.prog 7 #[.agg #[.string nm, .string pn, .int .i64 0, .bool false, .int .i64 mx, .func (.func 6) #[] #[.pointer (some ⟨d1, 0, none⟩), .pointer (some ⟨d2, 0, none⟩), .pointer (some ⟨d3, 0, none⟩), .pointer (some ⟨d4, 0, none⟩), .pointer (some ⟨d5, 0, none⟩)], .func (.func 5) #[] #[.pointer (some ⟨b1, 0, none⟩), .pointer (some ⟨b2, 0, none⟩), .pointer (some ⟨b3, 0, none⟩), .pointer (some ⟨b4, 0, none⟩), .pointer (some ⟨b5, 0, none⟩)]], .int .i64 n, .int .i64 pr] W fun e w' =>
      e = .returned .nilIface ∧ ∃ c1 c2 : Array Value,
        w' = ((((((((W.setCell ⟨b1, 0, none⟩ (.int .i64 1)).setCell ⟨b2, 0, none⟩ (.bool true)).setCell ⟨b3, 0, none⟩ (.int .i64 pr)).alloc (.cells c1 28)).alloc (.cells c2 28)).setCell ⟨d1, 0, none⟩ (.int .i64 1)).setCell ⟨d2, 0, none⟩ (.int .i64 n)).setCell ⟨d3, 0, none⟩ (.int .i64 pr)) := by
  have hcond : pn.toList.isEmpty = false ∨ (pn.toList.isEmpty = true ∧ (pr != 0) = false) := by
    rcases hpn with h | h
    · exact Or.inl h
    · cases hq : pn.toList.isEmpty
      · exact Or.inl rfl
      · exact Or.inr ⟨rfl, h⟩
  clear hpn
  rcases hcond with g1 | ⟨g1, g2⟩
  all_goals
    go_enter Ybaf.func7, Ybaf.ntmps7
    go_wp2_with (first
      | (go_at_call 5; refine (clo5_ok b1 b2 b3 b4 b5 pr _ n12 n13 n23 n14 n24 n34 (cell_a2 l1 h1) (cell_a2 l2 h2) (cell_a2 l3 h3) (cell_a2 l4 h4) (fr_a2 f1) (fr_a2 f2) (fr_a2 f3)).mono ?_; rintro e w' ⟨rfl, rfl⟩)
      | (go_at_call 6; refine (clo6_ok d1 d2 d3 d4 d5 n pr _ D.m12 D.m13 D.m23 D.m14 D.m24 D.m34 (cell_a2 D.u1 D.k1) (cell_a2 D.u2 D.k2) (cell_a2 D.u3 D.k3) (cell_a2 D.u4 D.k4) (fr_a2 D.r1) (fr_a2 D.r2) (fr_a2 D.r3)).mono ?_; rintro e w' ⟨rfl, rfl⟩)
      | (go_at_call 9; go_in))
    go_ret
    exact ⟨rfl, _, _, rfl⟩

set_option maxRecDepth 100000 in
set_option maxHeartbeats 1000000 in
/-- The room closure fails: its error is handed on. -/
theorem chk_roomfail (b1 b2 b3 b4 b5 d1 d2 d3 d4 d5 : Nat) (nm pn : ByteArray) (mx n pr : Int) (x : Addr) (W : World) (n12 : b1 ≠ b2) (n13 : b1 ≠ b3) (n23 : b2 ≠ b3) (n14 : b1 ≠ b4) (n24 : b2 ≠ b4) (n34 : b3 ≠ b4)
    (l1 : b1 < W.heap.size) (l2 : b2 < W.heap.size) (l3 : b3 < W.heap.size) (l4 : b4 < W.heap.size)
    (h1 : W.cell? ⟨b1, 0, none⟩ = some (.int .i64 0)) (h2 : W.cell? ⟨b2, 0, none⟩ = some (.bool true)) (h3 : W.cell? ⟨b3, 0, none⟩ = some (.int .i64 0)) (h4 : W.cell? ⟨b4, 0, none⟩ = some (.bool false))
    (f1 : W.frozen? ⟨b1, 0, none⟩ = false) (f2 : W.frozen? ⟨b2, 0, none⟩ = false) (f3 : W.frozen? ⟨b3, 0, none⟩ = false) (hpn : pn.toList.isEmpty = false ∨ (pr != 0) = false) (hn : ¬ mx < n)
    (D : Caps d1 d2 d3 d4 d5 true x (((W.setCell ⟨b1, 0, none⟩ (.int .i64 1)).setCell ⟨b2, 0, none⟩ (.bool true)).setCell ⟨b3, 0, none⟩ (.int .i64 pr))) :
    Calls Ybaf.prog 7 #[.agg #[.string nm, .string pn, .int .i64 0, .bool false, .int .i64 mx, .func (.func 6) #[] #[.pointer (some ⟨d1, 0, none⟩), .pointer (some ⟨d2, 0, none⟩), .pointer (some ⟨d3, 0, none⟩), .pointer (some ⟨d4, 0, none⟩), .pointer (some ⟨d5, 0, none⟩)], .func (.func 5) #[] #[.pointer (some ⟨b1, 0, none⟩), .pointer (some ⟨b2, 0, none⟩), .pointer (some ⟨b3, 0, none⟩), .pointer (some ⟨b4, 0, none⟩), .pointer (some ⟨b5, 0, none⟩)]], .int .i64 n, .int .i64 pr] W fun e w' =>
      e = .returned (.iface 34 (.pointer (some x))) ∧ ∃ c1 c2 : Array Value,
        w' = ((((((((W.setCell ⟨b1, 0, none⟩ (.int .i64 1)).setCell ⟨b2, 0, none⟩ (.bool true)).setCell ⟨b3, 0, none⟩ (.int .i64 pr)).alloc (.cells c1 28)).alloc (.cells c2 28)).setCell ⟨d1, 0, none⟩ (.int .i64 1)).setCell ⟨d2, 0, none⟩ (.int .i64 n)).setCell ⟨d3, 0, none⟩ (.int .i64 pr)) := by
  have hcond : pn.toList.isEmpty = false ∨ (pn.toList.isEmpty = true ∧ (pr != 0) = false) := by
    rcases hpn with h | h
    · exact Or.inl h
    · cases hq : pn.toList.isEmpty
      · exact Or.inl rfl
      · exact Or.inr ⟨rfl, h⟩
  clear hpn
  rcases hcond with g1 | ⟨g1, g2⟩
  all_goals
    go_enter Ybaf.func7, Ybaf.ntmps7
    go_wp2_with (first
      | (go_at_call 5; refine (clo5_ok b1 b2 b3 b4 b5 pr _ n12 n13 n23 n14 n24 n34 (cell_a2 l1 h1) (cell_a2 l2 h2) (cell_a2 l3 h3) (cell_a2 l4 h4) (fr_a2 f1) (fr_a2 f2) (fr_a2 f3)).mono ?_; rintro e w' ⟨rfl, rfl⟩)
      | (go_at_call 6; refine (clo6_fail d1 d2 d3 d4 d5 n pr x _ D.m12 D.m13 D.m23 D.m14 D.m24 D.m34 D.m15 D.m25 D.m35 (cell_a2 D.u1 D.k1) (cell_a2 D.u2 D.k2) (cell_a2 D.u3 D.k3) (cell_a2 D.u4 D.k4) (cell_a2 D.u5 D.k5) (fr_a2 D.r1) (fr_a2 D.r2) (fr_a2 D.r3)).mono ?_; rintro e w' ⟨rfl, rfl⟩)
      | (go_at_call 9; go_in))
    go_ret
    exact ⟨rfl, _, _, rfl⟩
end Go.Proofs.YbulkfsaFmt
