/-
  (*Node).Unlock WITH A HISTORY WRITER, THE MEMORY SUCCEEDING: one line is written; the writer's error comes back.
-/
import Derived.Test.YbulkbeqFmtNode
import Derived.Test.YbulkbeqFmtRecord
namespace Go.Proofs.YbulkbeqFmt
open Go.RowKit Go.Extern.Stop Go.Stop Go.Extern

theorem owns_wrote {w w' : World} {base wb e : Nat} {v : Value} {n : Nat} {xs : List Value} (h : w.ownsRow base e 1 v n xs) (hw : Wrote w.heap.size wb w w') (hb : wb < base) : w'.ownsRow base e 1 v n xs := by
  refine ⟨h.1, ?_⟩
  rcases h.2 with a | ⟨g, cap, cur, hv, hg, hh, r⟩
  · exact Or.inl a
  · refine Or.inr ⟨g, cap, cur, hv, hg, ?_, r⟩
    have hlt : g < w.heap.size := by
      rcases Nat.lt_or_ge g w.heap.size with a | a
      · exact a
      · rw [Array.getElem?_eq_none a] at hh; cases hh
    rw [hw.block g hlt (by omega)]; exact hh

theorem mem_wrote {w w' : World} {base b wb : Nat} {take : Int} {err : Value} {ks ns : List Value} (h : MemAt w base b take err ks ns) (hw : Wrote w.heap.size wb w w') (hb : wb < base) (hne : b ≠ wb) : MemAt w' base b take err ks ns := by
  obtain ⟨hlt, hsize, c0, c1, f2, f3, ak, ck, an, cn, c2, c3, ok, on⟩ := h
  have hbs : b < w.heap.size := by omega
  have hblk := hw.block b hbs hne
  exact ⟨hlt, Nat.le_trans hsize hw.size, (World.cell?_of_block (a := ⟨b, 0, none⟩) hblk).trans c0, (World.cell?_of_block (a := ⟨b, 1, none⟩) hblk).trans c1,
    (World.frozen?_of_block (a := ⟨b, 2, none⟩) hblk).trans f2, (World.frozen?_of_block (a := ⟨b, 3, none⟩) hblk).trans f3, ak, ck, an, cn,
    (World.cell?_of_block (a := ⟨b, 2, none⟩) hblk).trans c2, (World.cell?_of_block (a := ⟨b, 3, none⟩) hblk).trans c3, owns_wrote ok hw hb, owns_wrote on hw hb⟩

/-- Below 'base', but for the memory's and the writer's blocks, nothing has turned. -/
structure Kept2 (base b wb : Nat) (w w' : World) : Prop where
  os : w'.os = w.os
  tape : w'.tape = w.tape
  output : w'.output = w.output
  size : w.heap.size ≤ w'.heap.size
  block : ∀ k, k < base → k ≠ b → k ≠ wb → w'.heap[k]? = w.heap[k]?

set_option maxRecDepth 1000000 in
set_option maxHeartbeats 800000 in
theorem node_hist (base nb b wb : Nat) (take node : Int) (werr : Value) (name : ByteArray) (w : World) (hn : nb < base) (hnb : nb ≠ b) (hw : wb < base) (hwb : wb ≠ b) (hnw : nb ≠ wb)
    (hc : w.cell? ⟨nb, 1, none⟩ = some (.iface 26 (.pointer (some ⟨b, 0, none⟩)))) (hd : w.cell? ⟨nb, 2, none⟩ = some (.int .i64 node)) (hh : w.cell? ⟨nb, 3, none⟩ = some (.iface 44 (.pointer (some ⟨wb, 0, none⟩))))
    (h0 : w.cell? ⟨wb, 0, none⟩ = some (.int .i64 0)) (h1 : w.cell? ⟨wb, 1, none⟩ = some werr) (hf : w.frozen? ⟨wb, 0, none⟩ = false) (he : werr.oneCell' = true)
    (hm : MemAt w base b take .nilIface [] []) :
    Calls Ybaf.prog 6 #[.pointer (some ⟨nb, 0, none⟩), .string name] w fun e w' => e = .returned werr ∧
      MemAt w' base b take .nilIface [.int .u8 104, .int .u8 117] [.string name, .string name] ∧ w'.cell? ⟨wb, 0, none⟩ = some (.int .i64 1) ∧ Kept2 base b wb w w' := by
  have HM : Hid _ := hm
  have HN : Hid (nb < base ∧ nb ≠ b ∧ wb < base ∧ wb ≠ b ∧ nb ≠ wb) := ⟨hn, hnb, hw, hwb, hnw⟩
  have HE : Hid _ := he
  clear hm hn hnb hw hwb hnw he
  have m1 := method_holds
  have m2 := method_unlock
  have a1 := ahead_holds
  have a2 := ahead_unlock
  go_enter Ybaf.func6, Ybaf.ntmps6
  go_wp2_with fail
  refine (holds_any base b take _ [] [] name _ HM.out (by simp) (by simp)).mono ?_
  rintro e w1 ⟨rfl, hm1, hk1⟩
  have HM1 : Hid (MemAt w1 base b take .nilIface [.int .u8 104] [.string name]) := hm1
  have HK1 : Hid (Kept base b w w1) := hk1
  have hc1 := (hk1.cell 1 HN.out.1 HN.out.2.1).trans hc
  have hd1 := (hk1.cell 2 HN.out.1 HN.out.2.1).trans hd
  have hh1 := (hk1.cell 3 HN.out.1 HN.out.2.1).trans hh
  have h01 := (hk1.cell 0 HN.out.2.2.1 HN.out.2.2.2.1).trans h0
  have h11 := (hk1.cell 1 HN.out.2.2.1 HN.out.2.2.2.1).trans h1
  have hf1 := (hk1.frozen 0 HN.out.2.2.1 HN.out.2.2.2.1).trans hf
  clear hm1 hk1 hc hd hh h0 h1 hf
  go_wp2_with fail
  refine (unlock_any base b take _ [.int .u8 104] [.string name] name _ HM1.out (by simp) (by simp) rfl).mono ?_
  rintro e w2 ⟨rfl, hm2, hk2⟩
  have HM2 : Hid (MemAt w2 base b take .nilIface [.int .u8 104, .int .u8 117] [.string name, .string name]) := hm2
  have HK2 : Hid (Kept base b w1 w2) := hk2
  have hd2 := (hk2.cell 2 HN.out.1 HN.out.2.1).trans hd1
  have hh2 := (hk2.cell 3 HN.out.1 HN.out.2.1).trans hh1
  have h02 := (hk2.cell 0 HN.out.2.2.1 HN.out.2.2.2.1).trans h01
  have h12 := (hk2.cell 1 HN.out.2.2.1 HN.out.2.2.2.1).trans h11
  have hf2 := (hk2.frozen 0 HN.out.2.2.1 HN.out.2.2.2.1).trans hf1
  clear hm2 hk2 hc1 hd1 hh1 h01 h11 hf1
  go_wp2_with fail
  refine (record_hist nb wb _ node _ name werr _ hd2 hh2 h02 h12 hf2 HE.out HN.out.2.2.2.2).mono ?_
  rintro e w3 ⟨rfl, hw3⟩
  have HW : Hid (Wrote w2.heap.size wb w2 w3) := hw3
  clear hw3
  go_wp2
  go_ret
  have hk := HK1.out.trans HK2.out
  have hs2 := HM2.out.size
  exact ⟨rfl, mem_wrote HM2.out HW.out HN.out.2.2.1 (fun h => HN.out.2.2.2.1 h.symm), HW.out.one,
    ⟨HW.out.os.trans hk.os, HW.out.tape.trans hk.tape, HW.out.output.trans hk.output, Nat.le_trans hk.size HW.out.size, fun k h1 h2 h3 => (HW.out.block k (by omega) h3).trans (hk.block k h1 h2)⟩⟩
end Go.Proofs.YbulkbeqFmt
