/- (*ruleSet).add at a prefix with the word. -/
import Derived.Test.Qxb6604794aDoorAdd
import Derived.Test.Qxb6604794aDoorTmpl2
namespace Go.Proofs.Qxb6604794aDoor
open Go.RowKit

theorem info52 : (Tryd.prog.info? 52).map (fun i => (i.zero, i.size, i.bytes)) = some (some (.agg #[.int .u8 0, .slice none 0 0]), 2, 32) := by kernel_rfl

/-- what add leaves at a prefix with the word -/
structure Put (B : Nat) (T : Shape) (w : World) (T' : Shape) (w' : World) (N : Nat) (ts ts' : List Tp) (VT' : Value) (p : ByteArray) (g : Nat) : Prop where
  trie : Trie B T' N w'
  tm : Tm B T' ts' VT' w'
  bel : Below B w w'
  dom : T'.D = T.D
  gr : T'.g = T.g
  root : T'.A = T.A
  new : ∃ tp : Tp, ts' = ts ++ [tp] ∧ tp.g = g ∧ tp.pre = p

set_option maxRecDepth 100000 in
set_option maxHeartbeats 3200000 in
theorem add_tmpl {B : Nat} {T : Shape} {N : Nat} {ts : List Tp} {VT : Value} {w : World} (h : Trie B T N w) (ht : Tm B T ts VT w) (hm : MaxL w) (p : ByteArray) (hps : p.size ≤ 1048576) (hN : ts.length ≤ 1048576) (gr : Nat) (hno : Lib.contains p.data.toList word = true) :
    Calls Tryd.prog 19 #[.pointer (some ⟨T.A [], 0, none⟩), .int .u8 gr, .string p] w fun e w' => e = .returned (.tuple #[]) ∧ ∃ T' ts' VT', Put B T w T' w' N ts ts' VT' p gr := by
  obtain ⟨i0, hi0, hz0, hz1, hz2⟩ := info_parts info52
  have cc := contains_any p w hm hps
  rw [hno] at cc
  have hc := ht.cell
  have hf := h.free [] h.root 2
  have hown := ht.row
  have hla := (h.addr [] h.root).2.1
  have hB := h.base
  have ag : VT.ownBlock ≠ some (T.A []) := fun e => by
    have := ht.tag _ e
    rw [(h.addr [] h.root).2.2] at this; cases this
  have HT : Hid (Trie B T N w ∧ Tm B T ts VT w) := ⟨h, ht⟩
  clear h ht hno
  have sp : Calls Tryd.prog 25 #[.string p, .string ⟨#[123, 99, 108, 105, 101, 110, 116, 125]⟩] w.drew fun e w' => e = .returned (.slice (some ⟨w.heap.size, 0, none⟩) (parts p).length (parts p).length) ∧ w' = (w.alloc (.cells ((parts p).map Value.string).toArray 9)).drew := split_any p w.drew hm hps
  go_enter Tryd.func19, Tryd.ntmps19
  go_wp2_with (go_at_call 24; refine cc.mono ?_; rintro e w2 ⟨rfl, hw2⟩; rw [hw2]; clear hw2)
  clear cc
  have hc5 : (w.alloc (.cells ((parts p).map Value.string).toArray 9)).cell? ⟨T.A [], 2, none⟩ = some VT := by rw [World.cell?_of_block (a := ⟨T.A [], 2, none⟩) (Below.heap_alloc w _ _ hla)]; exact hc
  have hf5 : (w.alloc (.cells ((parts p).map Value.string).toArray 9)).frozen? ⟨T.A [], 2, none⟩ = false := by rw [World.frozen?_of_block (a := ⟨T.A [], 2, none⟩) (Below.heap_alloc w _ _ hla)]; exact hf
  have hown5 := hown.alloc (.cells ((parts p).map Value.string).toArray 9)
  have hla5 : T.A [] < (w.alloc (.cells ((parts p).map Value.string).toArray 9)).heap.size := by simp; omega
  have hB5 : B ≤ (w.alloc (.cells ((parts p).map Value.string).toArray 9)).heap.size := by simp; omega
  generalize hk : w.heap.size = k at sp
  have HK : Hid (w.heap.size = k) := hk
  generalize hw5 : w.alloc (.cells ((parts p).map Value.string).toArray 9) = w5 at sp hc5 hf5 hown5 hla5 hB5
  have HW : Hid (w.alloc (.cells ((parts p).map Value.string).toArray 9) = w5) := hw5
  generalize hpl : (parts p).length = pl at sp
  have HP : Hid ((parts p).length = pl) := hpl
  generalize hAA : T.A [] = a at hc hc5 hf5 ag hla5 ⊢
  have HA : Hid (T.A [] = a) := hAA
  clear hpl hw5 hk hla hf hown hB hm hAA
  go_region_law (first | (refine step_append_lies _ (by rfl) _ _ _ (by rfl) B 52 i0 _ 2 32 Tryd.underlying42 hi0 hz0 hz1 hz2 rfl (by omega) VT _ _ (by simp [Act.eval]) ((hown5.alloc _).drew) ⟨w5.heap.size, 0, none⟩ 1 1 [.int .u8 gr, .slice (some ⟨k, 0, none⟩) pl pl] (by simp [Act.eval]) (by rfl) (World.news_of_block (cs := #[.int .u8 gr, .slice (some ⟨k, 0, none⟩) pl pl]) (t := 52) (fr := (0, 0)) (heap_alloc_new w5 _)) (by simp [Value.oneCell']) (by omega) (by unfold maxLen; omega) (by omega) (by simp; omega) (w5.heap.size + 1) (by simp) ?_; intro gg cap w1 hown1 hgrow hat hlt; have hfz : w1.frozen? ⟨a, 2, none⟩ = false := (by rw [hgrow.frozen_far _ (by simp; omega) (Ne.symm ag)]; simp [go_sem, hf5, hla5]); have hcz : w1.cell? ⟨a, 2, none⟩ = some VT := (by rw [hgrow.cell_far _ (by simp; omega) (Ne.symm ag)]; simp [go_sem, hc5, hla5])) | (go_simp; go_at_call 25; refine sp.mono ?_; rintro e w2 ⟨rfl, hw2⟩; rw [hw2]; clear hw2))
  all_goals
    go_wp2
    refine bodyPost_ret (results_none rfl _ _ _) rfl ?_
    have HK1 := HK.out
    have HW1 := HW.out
    have HP1 := HP.out
    have HA1 := HA.out
    subst HK1 HW1 HP1 HA1
    obtain ⟨h, ht⟩ := HT.out
    obtain ⟨T', VT', tp, a1, a2, a3, a4, a5, a6, a7, a8⟩ := tmpl_step h ht p gr hown1 hgrow hat
    exact ⟨rfl, T', _, VT', a1, a2, a3, a4, a5, a6, tp, rfl, a7, a8⟩
end Go.Proofs.Qxb6604794aDoor
