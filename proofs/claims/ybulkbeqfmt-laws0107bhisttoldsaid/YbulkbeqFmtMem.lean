/-
  THE LAW's OWN MEMORY (zzs0107bmem): Holds AND Unlock, each by its contract: the two lists grow by one, the rest of the world below 'base' stays.
-/
import Derived.Test.YbulkbeqFmtRows
import Derived.WalkKit
import Derived.WalkSpells
import Derived.WalkLawsBesides
namespace Go.Proofs.YbulkbeqFmt
open Go.RowKit

theorem info5 : (Ybaf.prog.info? 5).map (fun i => (i.zero, i.size, i.bytes)) = some (some (.int .u8 0), 1, 1) := by kernel_rfl
theorem info9 : (Ybaf.prog.info? 9).map (fun i => (i.zero, i.size, i.bytes)) = some (some (.string ⟨#[]⟩), 1, 16) := by kernel_rfl

/-- The memory at block b: its four fields; the two lists lie in rows of the call's own, from block 'base' on. -/
structure MemAt (w : World) (base b : Nat) (take : Int) (err : Value) (ks ns : List Value) : Prop where
  lt : b < base
  size : base ≤ w.heap.size
  c0 : w.cell? ⟨b, 0, none⟩ = some (.int .u64 take)
  c1 : w.cell? ⟨b, 1, none⟩ = some err
  f2 : w.frozen? ⟨b, 2, none⟩ = false
  f3 : w.frozen? ⟨b, 3, none⟩ = false
  rows : ∃ ak ck an cn, w.cell? ⟨b, 2, none⟩ = some (.slice ak ks.length ck) ∧ w.cell? ⟨b, 3, none⟩ = some (.slice an ns.length cn) ∧ w.ownsRow base 5 1 (.slice ak ks.length ck) ks.length ks ∧ w.ownsRow base 9 1 (.slice an ns.length cn) ns.length ns

/-- Below 'base', but for block b, nothing has turned. -/
structure Kept (base b : Nat) (w w' : World) : Prop where
  os : w'.os = w.os
  tape : w'.tape = w.tape
  output : w'.output = w.output
  size : w.heap.size ≤ w'.heap.size
  block : ∀ k, k < base → k ≠ b → w'.heap[k]? = w.heap[k]?

theorem grown_block {w w' : World} {o : Obj} {row : Option Nat} {k : Nat} (hg : (w.alloc o).grownBy w' row) (hk : k < w.heap.size) (hne : some k ≠ row) : w'.heap[k]? = w.heap[k]? := by
  rw [hg.block k (by simp; omega) hne, Below.heap_alloc _ _ _ hk]

theorem grown_cell {w w' : World} {o : Obj} {row : Option Nat} {b j : Nat} (hg : (w.alloc o).grownBy w' row) (hk : b < w.heap.size) (hne : some b ≠ row) : w'.cell? ⟨b, j, none⟩ = w.cell? ⟨b, j, none⟩ :=
  World.cell?_of_block (a := ⟨b, j, none⟩) (grown_block hg hk hne)
theorem grown_frozen {w w' : World} {o : Obj} {row : Option Nat} {b j : Nat} (hg : (w.alloc o).grownBy w' row) (hk : b < w.heap.size) (hne : some b ≠ row) : w'.frozen? ⟨b, j, none⟩ = w.frozen? ⟨b, j, none⟩ :=
  World.frozen?_of_block (a := ⟨b, j, none⟩) (grown_block hg hk hne)

/-- A row of another element type stays while this one grows. -/
theorem owns_other {w w' : World} {o : Obj} {base e e' : Nat} {v v' : Value} {n n' : Nat} {xs xs' : List Value} (hne : e ≠ e') (h : w.ownsRow base e 1 v n xs) (h' : w.ownsRow base e' 1 v' n' xs') (hg : (w.alloc o).grownBy w' v.ownBlock) : w'.ownsRow base e' 1 v' n' xs' := by
  refine ⟨h'.1, ?_⟩
  rcases h'.2 with a | ⟨g, cap, cur, hv, hb, hh, r⟩
  · exact Or.inl a
  · refine Or.inr ⟨g, cap, cur, hv, hb, ?_, r⟩
    have hlt : g < w.heap.size := by
      rcases Nat.lt_or_ge g w.heap.size with a | a
      · exact a
      · rw [Array.getElem?_eq_none a] at hh; cases hh
    rw [grown_block hg hlt ?_]
    · exact hh
    · intro e1
      rcases h.2 with ⟨rfl, _⟩ | ⟨g2, cap2, cur2, hv2, _, hh2, _⟩
      · simp [Value.ownBlock] at e1
      · rw [hv2] at e1
        simp [Value.ownBlock] at e1
        subst e1
        rw [hh2] at hh
        simp at hh
        exact hne hh.2

/-- A row stays under a new block. -/
theorem owns_alloc {w : World} {o : Obj} {base e : Nat} {v : Value} {n : Nat} {xs : List Value} (h : w.ownsRow base e 1 v n xs) : (w.alloc o).ownsRow base e 1 v n xs := by
  refine ⟨h.1, ?_⟩
  rcases h.2 with a | ⟨g, cap, cur, hv, hb, hh, r⟩
  · exact Or.inl a
  · refine Or.inr ⟨g, cap, cur, hv, hb, ?_, r⟩
    have hlt : g < w.heap.size := by
      rcases Nat.lt_or_ge g w.heap.size with a | a
      · exact a
      · rw [Array.getElem?_eq_none a] at hh; cases hh
    rw [Below.heap_alloc _ _ _ hlt]; exact hh

theorem owns_ne {w : World} {base e b : Nat} {v : Value} {n : Nat} {xs : List Value} (h : w.ownsRow base e 1 v n xs) (hb : b < base) : some b ≠ v.ownBlock := by
  intro e1
  have := h.lt b e1.symm
  omega

/-- A row that owns an element is no nil. -/
theorem owns_some {w : World} {base e : Nat} {v : Value} {n : Nat} {xs : List Value} (h : w.ownsRow base e 1 v n xs) (hn : 0 < n) : ∃ g cap, v = .slice (some ⟨g, 0, none⟩) n cap := by
  rcases h.2 with ⟨_, h⟩ | ⟨g, cap', _, h, _⟩
  · omega
  · exact ⟨g, cap', h⟩

theorem set_ne (w : World) (b j k : Nat) (v : Value) (h : j ≠ k) : (w.setCell ⟨b, j, none⟩ v).cell? ⟨b, k, none⟩ = w.cell? ⟨b, k, none⟩ :=
  World.cell?_setCell_other _ _ _ _ (fun e => h (by injection e))
theorem set_frozen (w : World) (b j k : Nat) (v : Value) : (w.setCell ⟨b, j, none⟩ v).frozen? ⟨b, k, none⟩ = w.frozen? ⟨b, k, none⟩ := by simp
theorem set_same (w : World) (b j : Nat) (u v : Value) (h : w.cell? ⟨b, j, none⟩ = some u) : (w.setCell ⟨b, j, none⟩ v).cell? ⟨b, j, none⟩ = some v := World.cell?_setCell_same _ _ _ h
theorem set_size (w : World) (a : Addr) (v : Value) : (w.setCell a v).heap.size = w.heap.size := by simp
theorem new_cell (w : World) (p : Addr) (V v : Value) (e : TypeId) : ((w.setCell p V).alloc (.cells #[v] e)).cell? ⟨w.heap.size, 0, none⟩ = some v := by
  have h : (w.setCell p V).heap.size = w.heap.size := by simp
  revert h; generalize w.setCell p V = w'; intro h; rw [← h]; simp

set_option maxRecDepth 1000000 in
set_option maxHeartbeats 800000 in
/-- holds. -/
theorem holds_any (base b : Nat) (take : Int) (err : Value) (ks ns : List Value) (name : ByteArray) (w : World) (hm : MemAt w base b take err ks ns) (hk : ks.length ≤ 10) (hn : ns.length ≤ 10) :
    Calls Ybaf.prog 31 #[.pointer (some ⟨b, 0, none⟩), .string name] w fun e w' => e = .returned (.tuple #[.int .u64 take, .bool true]) ∧
      MemAt w' base b take err (ks ++ [.int .u8 104]) (ns ++ [.string name]) ∧ Kept base b w w' := by
  obtain ⟨hlt, hsize, c0, c1, f2, f3, ak, ck, an, cn, c2, c3, ok, on⟩ := hm
  obtain ⟨i5, hi5, z5, s5, b5⟩ := info_parts info5
  obtain ⟨i9, hi9, z9, s9, b9⟩ := info_parts info9
  have hbs : b < w.heap.size := by omega
  have OK : Hid (w.ownsRow base 5 1 (.slice ak ks.length ck) ks.length ks) := ok
  have ON : Hid (w.ownsRow base 9 1 (.slice an ns.length cn) ns.length ns) := on
  have HS : Hid (b < base ∧ base ≤ w.heap.size) := ⟨hlt, hsize⟩
  clear ok on hlt hsize
  go_enter Ybaf.func31, Ybaf.ntmps31
  go_wp2_with (at_builtin; refine wpList_append_own _ rfl (.tmp 10) (.tmp 11) 27 rfl base 5 i5 (.int .u8 0) 1 1 Ybaf.underlying27 hi5 z5 s5 b5 rfl (by decide) _ ks.length ks rfl (owns_alloc OK.out) ⟨w.heap.size, 0, none⟩ 1 1 [.int .u8 104] rfl rfl ?c1 ?c2 ?b1 ?b2 ?b3 ?on)
  case c1 => intro j u hj; match j, hj with | 0, hj => simp at hj; subst hj; simp [Addr.add]
  case c2 => intro u hu; simp at hu; subst hu; rfl
  case b1 => unfold maxLen; omega
  case b2 => omega
  case b3 => have := HS.out.2; simp; omega
  case on =>
    intro v1 w1 o1 g1 _
    obtain ⟨gk, k1, rfl⟩ := owns_some o1 (by omega)
    have nk := owns_ne OK.out HS.out.1
    have d0 := (grown_cell (j := 0) g1 hbs nk).trans c0
    have d1 := (grown_cell (j := 1) g1 hbs nk).trans c1
    have d2 := (grown_cell (j := 2) g1 hbs nk).trans c2
    have d3 := (grown_cell (j := 3) g1 hbs nk).trans c3
    have e2 := (grown_frozen (j := 2) g1 hbs nk).trans f2
    have e3 := (grown_frozen (j := 3) g1 hbs nk).trans f3
    have G1 : Hid ((w.alloc (.cells #[.int .u8 104] 5)).grownBy w1 (Value.slice ak ks.length ck).ownBlock) := g1
    have O1 : Hid (w1.ownsRow base 5 1 (.slice (some ⟨gk, 0, none⟩) (ks.length + 1) k1) (ks.length + 1) (ks ++ [.int .u8 104])) := o1
    have hs1 : w.heap.size + 1 ≤ w1.heap.size := by have := g1.size; simpa using this
    have N1 : Hid (w1.ownsRow base 9 1 (.slice an ns.length cn) ns.length ns) := owns_other (by decide) OK.out ON.out g1
    clear g1 o1 c0 c1 c2 c3 f2 f3 nk
    go_wp2_with (at_builtin; refine wpList_append_own _ rfl (.tmp 19) (.tmp 21) 28 rfl base 9 i9 (.string ⟨#[]⟩) 1 16 Ybaf.underlying28 hi9 z9 s9 b9 rfl (by decide) _ ns.length ns rfl (owns_alloc (ownsRow_setCell_below N1.out HS.out.1 _)) ⟨w1.heap.size, 0, none⟩ 1 1 [.string name] rfl rfl ?q1 ?q2 ?r1 ?r2 ?r3 ?on2)
    case q1 => intro j u hj; match j, hj with | 0, hj => simp at hj; subst hj; exact new_cell _ _ _ _ _
    case q2 => intro u hu; simp at hu; subst hu; rfl
    case r1 => unfold maxLen; omega
    case r2 => omega
    case r3 => have := HS.out.2; simp; omega
    case on2 =>
      intro v2 w2 o2 g2 _
      obtain ⟨gn, n1, rfl⟩ := owns_some o2 (by omega)
      have nn := owns_ne N1.out HS.out.1
      have hbs1 : b < (w1.setCell ⟨b, 2, none⟩ (Value.slice (some ⟨gk, 0, none⟩) (ks.length + 1) k1)).heap.size := by rw [set_size]; omega
      have D0 := ((grown_cell (j := 0) g2 hbs1 nn).trans (set_ne _ _ _ _ _ (by decide))).trans d0
      have D1 := ((grown_cell (j := 1) g2 hbs1 nn).trans (set_ne _ _ _ _ _ (by decide))).trans d1
      have D2 := (grown_cell (j := 2) g2 hbs1 nn).trans (set_same _ _ _ _ _ d2)
      have D3 := ((grown_cell (j := 3) g2 hbs1 nn).trans (set_ne _ _ _ _ _ (by decide))).trans d3
      have E2 := ((grown_frozen (j := 2) g2 hbs1 nn).trans (set_frozen _ _ _ _ _)).trans e2
      have E3 := ((grown_frozen (j := 3) g2 hbs1 nn).trans (set_frozen _ _ _ _ _)).trans e3
      have G2 : Hid (((w1.setCell ⟨b, 2, none⟩ (Value.slice (some ⟨gk, 0, none⟩) (ks.length + 1) k1)).alloc (.cells #[.string name] 9)).grownBy w2 (Value.slice an ns.length cn).ownBlock) := g2
      have O2 : Hid (w2.ownsRow base 9 1 (.slice (some ⟨gn, 0, none⟩) (ns.length + 1) n1) (ns.length + 1) (ns ++ [.string name])) := o2
      have hs2 : w1.heap.size + 1 ≤ w2.heap.size := by have := g2.size; simpa [set_size] using this
      have K2 : Hid (w2.ownsRow base 5 1 (.slice (some ⟨gk, 0, none⟩) (ks.length + 1) k1) (ks.length + 1) (ks ++ [.int .u8 104])) :=
        owns_other (by decide) (ownsRow_setCell_below N1.out HS.out.1 _) (ownsRow_setCell_below O1.out HS.out.1 _) g2
      clear g2 o2 nn d0 d1 d2 d3 e2 e3
      go_wp2
      go_ret2
      refine ⟨rfl, ⟨HS.out.1, ?_, ?_, ?_, ?_, ?_, ?_⟩, ⟨?_, ?_, ?_, ?_, ?_⟩⟩
      · rw [set_size]; have := HS.out.2; omega
      · rw [set_ne _ _ _ _ _ (by decide)]; exact D0
      · rw [set_ne _ _ _ _ _ (by decide)]; exact D1
      · rw [set_frozen]; exact E2
      · rw [set_frozen]; exact E3
      · refine ⟨some ⟨gk, 0, none⟩, k1, some ⟨gn, 0, none⟩, n1, ?_, ?_, ?_, ?_⟩
        · rw [set_ne _ _ _ _ _ (by decide), D2]; simp
        · rw [set_same _ _ _ _ _ D3]; simp
        · simpa using ownsRow_setCell_below K2.out HS.out.1 _
        · simpa using ownsRow_setCell_below O2.out HS.out.1 _
      · exact (show w2.os = _ from G2.out.os).trans G1.out.os
      · exact (show w2.tape = _ from G2.out.tape).trans G1.out.tape
      · exact (show w2.output = _ from G2.out.output).trans G1.out.output
      · rw [set_size]; omega
      · intro k hk hkb
        have hks := HS.out.2
        rw [Below.heap_setCell _ _ _ _ hkb, grown_block G2.out (by rw [set_size]; omega) (owns_ne N1.out hk), Below.heap_setCell _ _ _ _ hkb, grown_block G1.out (by omega) (owns_ne OK.out hk)]

set_option maxRecDepth 1000000 in
set_option maxHeartbeats 800000 in
/-- unlock. -/
theorem unlock_any (base b : Nat) (take : Int) (err : Value) (ks ns : List Value) (name : ByteArray) (w : World) (hm : MemAt w base b take err ks ns) (hk : ks.length ≤ 10) (hn : ns.length ≤ 10) (_he : err.oneCell' = true) :
    Calls Ybaf.prog 32 #[.pointer (some ⟨b, 0, none⟩), .string name] w fun e w' => e = .returned err ∧
      MemAt w' base b take err (ks ++ [.int .u8 117]) (ns ++ [.string name]) ∧ Kept base b w w' := by
  obtain ⟨hlt, hsize, c0, c1, f2, f3, ak, ck, an, cn, c2, c3, ok, on⟩ := hm
  obtain ⟨i5, hi5, z5, s5, b5⟩ := info_parts info5
  obtain ⟨i9, hi9, z9, s9, b9⟩ := info_parts info9
  have hbs : b < w.heap.size := by omega
  have OK : Hid (w.ownsRow base 5 1 (.slice ak ks.length ck) ks.length ks) := ok
  have ON : Hid (w.ownsRow base 9 1 (.slice an ns.length cn) ns.length ns) := on
  have HS : Hid (b < base ∧ base ≤ w.heap.size) := ⟨hlt, hsize⟩
  clear ok on hlt hsize
  go_enter Ybaf.func32, Ybaf.ntmps32
  go_wp2_with (at_builtin; refine wpList_append_own _ rfl (.tmp 9) (.tmp 10) 27 rfl base 5 i5 (.int .u8 0) 1 1 Ybaf.underlying27 hi5 z5 s5 b5 rfl (by decide) _ ks.length ks rfl (owns_alloc OK.out) ⟨w.heap.size, 0, none⟩ 1 1 [.int .u8 117] rfl rfl ?c1 ?c2 ?b1 ?b2 ?b3 ?on)
  case c1 => intro j u hj; match j, hj with | 0, hj => simp at hj; subst hj; simp [Addr.add]
  case c2 => intro u hu; simp at hu; subst hu; rfl
  case b1 => unfold maxLen; omega
  case b2 => omega
  case b3 => have := HS.out.2; simp; omega
  case on =>
    intro v1 w1 o1 g1 _
    obtain ⟨gk, k1, rfl⟩ := owns_some o1 (by omega)
    have nk := owns_ne OK.out HS.out.1
    have d0 := (grown_cell (j := 0) g1 hbs nk).trans c0
    have d1 := (grown_cell (j := 1) g1 hbs nk).trans c1
    have d2 := (grown_cell (j := 2) g1 hbs nk).trans c2
    have d3 := (grown_cell (j := 3) g1 hbs nk).trans c3
    have e2 := (grown_frozen (j := 2) g1 hbs nk).trans f2
    have e3 := (grown_frozen (j := 3) g1 hbs nk).trans f3
    have G1 : Hid ((w.alloc (.cells #[.int .u8 117] 5)).grownBy w1 (Value.slice ak ks.length ck).ownBlock) := g1
    have O1 : Hid (w1.ownsRow base 5 1 (.slice (some ⟨gk, 0, none⟩) (ks.length + 1) k1) (ks.length + 1) (ks ++ [.int .u8 117])) := o1
    have hs1 : w.heap.size + 1 ≤ w1.heap.size := by have := g1.size; simpa using this
    have N1 : Hid (w1.ownsRow base 9 1 (.slice an ns.length cn) ns.length ns) := owns_other (by decide) OK.out ON.out g1
    clear g1 o1 c0 c1 c2 c3 f2 f3 nk
    go_wp2_with (at_builtin; refine wpList_append_own _ rfl (.tmp 18) (.tmp 20) 28 rfl base 9 i9 (.string ⟨#[]⟩) 1 16 Ybaf.underlying28 hi9 z9 s9 b9 rfl (by decide) _ ns.length ns rfl (owns_alloc (ownsRow_setCell_below N1.out HS.out.1 _)) ⟨w1.heap.size, 0, none⟩ 1 1 [.string name] rfl rfl ?q1 ?q2 ?r1 ?r2 ?r3 ?on2)
    case q1 => intro j u hj; match j, hj with | 0, hj => simp at hj; subst hj; exact new_cell _ _ _ _ _
    case q2 => intro u hu; simp at hu; subst hu; rfl
    case r1 => unfold maxLen; omega
    case r2 => omega
    case r3 => have := HS.out.2; simp; omega
    case on2 =>
      intro v2 w2 o2 g2 _
      obtain ⟨gn, n1, rfl⟩ := owns_some o2 (by omega)
      have nn := owns_ne N1.out HS.out.1
      have hbs1 : b < (w1.setCell ⟨b, 2, none⟩ (Value.slice (some ⟨gk, 0, none⟩) (ks.length + 1) k1)).heap.size := by rw [set_size]; omega
      have D0 := ((grown_cell (j := 0) g2 hbs1 nn).trans (set_ne _ _ _ _ _ (by decide))).trans d0
      have D1 := ((grown_cell (j := 1) g2 hbs1 nn).trans (set_ne _ _ _ _ _ (by decide))).trans d1
      have D2 := (grown_cell (j := 2) g2 hbs1 nn).trans (set_same _ _ _ _ _ d2)
      have D3 := ((grown_cell (j := 3) g2 hbs1 nn).trans (set_ne _ _ _ _ _ (by decide))).trans d3
      have E2 := ((grown_frozen (j := 2) g2 hbs1 nn).trans (set_frozen _ _ _ _ _)).trans e2
      have E3 := ((grown_frozen (j := 3) g2 hbs1 nn).trans (set_frozen _ _ _ _ _)).trans e3
      have G2 : Hid (((w1.setCell ⟨b, 2, none⟩ (Value.slice (some ⟨gk, 0, none⟩) (ks.length + 1) k1)).alloc (.cells #[.string name] 9)).grownBy w2 (Value.slice an ns.length cn).ownBlock) := g2
      have O2 : Hid (w2.ownsRow base 9 1 (.slice (some ⟨gn, 0, none⟩) (ns.length + 1) n1) (ns.length + 1) (ns ++ [.string name])) := o2
      have hs2 : w1.heap.size + 1 ≤ w2.heap.size := by have := g2.size; simpa [set_size] using this
      have K2 : Hid (w2.ownsRow base 5 1 (.slice (some ⟨gk, 0, none⟩) (ks.length + 1) k1) (ks.length + 1) (ks ++ [.int .u8 117])) :=
        owns_other (by decide) (ownsRow_setCell_below N1.out HS.out.1 _) (ownsRow_setCell_below O1.out HS.out.1 _) g2
      clear g2 o2 nn d0 d1 d2 d3 e2 e3
      go_wp2
      go_ret
      refine ⟨rfl, ⟨HS.out.1, ?_, ?_, ?_, ?_, ?_, ?_⟩, ⟨?_, ?_, ?_, ?_, ?_⟩⟩
      · rw [set_size]; have := HS.out.2; omega
      · rw [set_ne _ _ _ _ _ (by decide)]; exact D0
      · rw [set_ne _ _ _ _ _ (by decide)]; exact D1
      · rw [set_frozen]; exact E2
      · rw [set_frozen]; exact E3
      · refine ⟨some ⟨gk, 0, none⟩, k1, some ⟨gn, 0, none⟩, n1, ?_, ?_, ?_, ?_⟩
        · rw [set_ne _ _ _ _ _ (by decide), D2]; simp
        · rw [set_same _ _ _ _ _ D3]; simp
        · simpa using ownsRow_setCell_below K2.out HS.out.1 _
        · simpa using ownsRow_setCell_below O2.out HS.out.1 _
      · exact (show w2.os = _ from G2.out.os).trans G1.out.os
      · exact (show w2.tape = _ from G2.out.tape).trans G1.out.tape
      · exact (show w2.output = _ from G2.out.output).trans G1.out.output
      · rw [set_size]; omega
      · intro k hk hkb
        have hks := HS.out.2
        rw [Below.heap_setCell _ _ _ _ hkb, grown_block G2.out (by rw [set_size]; omega) (owns_ne N1.out hk), Below.heap_setCell _ _ _ _ hkb, grown_block G1.out (by omega) (owns_ne OK.out hk)]

end Go.Proofs.YbulkbeqFmt
