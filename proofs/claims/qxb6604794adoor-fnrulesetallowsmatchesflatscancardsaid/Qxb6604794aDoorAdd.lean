/- (*ruleSet).add at a prefix without the word. -/
import Derived.Test.Qxb6604794aDoorGrow
import Derived.Deep.RegionLaw
import Derived.OwnWalk
import Derived.StillTactics
import Derived.Laws.Pointers
namespace Go.Proofs.Qxb6604794aDoor
open Go.RowKit

theorem info57 : (Tryd.prog.info? 57).map (fun i => (i.zero, i.size, i.bytes)) = some (some (.agg #[.int .u8 0, .pointer none]), 2, 16) := by kernel_rfl

/-- what add has done behind i bytes of p -/
structure Grown (B : Nat) (T : Shape) (w : World) (T' : Shape) (w' : World) (N : Nat) (p : List UInt8) (i : Nat) : Prop where
  trie : Trie B T' (N + i) w'
  step : Step B T w T' w'
  dom : ∀ q, T'.D q ↔ T.D q ∨ q <+: p.take i
  gr : ∀ q, T'.g q = T.g q

theorem pre_snoc {p : List UInt8} {i : Nat} (h : i < p.length) (q : List UInt8) : q <+: p.take (i + 1) ↔ q <+: p.take i ∨ q = p.take i ++ [p[i]] := by
  rw [List.take_succ_eq_append_getElem h, List.prefix_concat_iff]
  exact or_comm

theorem Grown.hop {B : Nat} {T T' : Shape} {w w' w'' : World} {N i : Nat} {p : List UInt8} (h : Grown B T w T' w' N p i) (hb : Below w'.heap.size w' w'') : Grown B T w T' w'' N p i where
  trie := h.trie.below hb
  step := h.step.trans (Step.of_below (h.trie.addr [] h.trie.root).2.1 h.trie.base hb)
  dom := h.dom
  gr := h.gr

theorem Grown.same {B : Nat} {T T' : Shape} {w w' : World} {N i : Nat} {p : List UInt8} (h : Grown B T w T' w' N p i) (hi : i < p.length) (hin : p[i] ∈ T'.E (p.take i)) : Grown B T w T' w' N p (i + 1) where
  trie := h.trie.more (by omega)
  step := h.step
  dom q := by
    have hD : T'.D (p.take i) := (h.dom _).2 (.inr (List.prefix_refl _))
    have hK := (h.trie.kids _ _ hD).1 hin
    rw [pre_snoc hi, ← or_assoc, ← h.dom q]
    exact ⟨.inl, fun e => e.elim id (fun e => e ▸ hK)⟩
  gr := h.gr

theorem Grown.made {B : Nat} {T T' : Shape} {w w3 w1 : World} {N i : Nat} {p : List UInt8} {o : Obj} (h : Grown B T w T' w3 N p i) (hz : ∀ q, ¬ T.D q → T.g q = 0) (hi : i < p.length) (hin : p[i] ∉ T'.E (p.take i)) {gg cap : Nat}
    (hown1 : w1.ownsRow B 57 2 (.slice (some ⟨gg, 0, none⟩) ((T'.E (p.take i)).length + 1) cap) ((T'.E (p.take i)).length + 1) (edgeCells T'.A (p.take i) (T'.E (p.take i)) ++ [.int .u8 p[i].toNat, .pointer (some ⟨w3.heap.size, 0, none⟩)]))
    (hgrow : (((w3.alloc (Obj.cells #[Value.int IntKind.u8 0, Value.slice none 0 0] 41)).alloc o).drew).grownBy w1 (T'.V (p.take i)).ownBlock)
    (hat : (T'.V (p.take i)).ownBlock = some gg ∨ gg = (w3.alloc (Obj.cells #[Value.int IntKind.u8 0, Value.slice none 0 0] 41)).heap.size + 1) :
    ∃ T'', Grown B T w T'' (w1.setCell ⟨T'.A (p.take i), 1, none⟩ (.slice (some ⟨gg, 0, none⟩) ((T'.E (p.take i)).length + 1) cap)) N p (i + 1) ∧ T''.A (p.take (i + 1)) = w3.heap.size := by
  have hD : T'.D (p.take i) := (h.dom _).2 (.inr (List.prefix_refl _))
  obtain ⟨a1, a2⟩ := grow_step h.trie hD hin hown1 hgrow hat
  have hnD : ¬ T'.D (p.take i ++ [p[i]]) := fun e => hin ((h.trie.kids _ _ hD).2 e)
  refine ⟨_, ⟨a1.more (by omega), h.step.trans a2, ?_, ?_⟩, ?_⟩
  · intro q
    rw [pre_snoc hi, ← or_assoc, ← h.dom q]
    exact Iff.rfl
  · intro q
    by_cases e : q = p.take i ++ [p[i]]
    · have : T.g q = 0 := hz q (fun e2 => hnD (e ▸ (h.dom q).2 (.inl e2)))
      simp only [Shape.grow, if_pos e, this]
    · simp only [Shape.grow, if_neg e]; exact h.gr q
  · rw [List.take_succ_eq_append_getElem hi]
    simp only [Shape.grow, if_true]

theorem Grown.first {B : Nat} {T : Shape} {w : World} {N : Nat} (h : Trie B T N w) (p : List UInt8) : Grown B T w T w N p 0 where
  trie := h
  step := Step.refl _ _ _
  dom q := ⟨.inl, fun e => e.elim id (fun e => by
    have : q = [] := by simpa using e
    rw [this]; exact h.root)⟩
  gr _ := rfl

/-- what add leaves of the tree at a prefix without the word -/
structure Added (B : Nat) (T : Shape) (w : World) (T' : Shape) (w' : World) (N : Nat) (p : List UInt8) (g : Nat) : Prop where
  trie : Trie B T' (N + p.length) w'
  step : Step B T w T' w'
  dom : ∀ q, T'.D q ↔ T.D q ∨ q <+: p
  gr : ∀ q, T'.g q = if q = p then max (T.g q) g else T.g q

theorem Grown.last {B : Nat} {T T' : Shape} {w w' : World} {N i : Nat} {p : List UInt8} (h : Grown B T w T' w' N p i) (hi : i = p.length) (g : Nat) :
    ∃ T'', Added B T w T'' (w'.setCell ⟨T'.A (p.take i), 0, none⟩ (.int .u8 (max (T'.g (p.take i)) g : Nat))) N p g := by
  have hD : T'.D (p.take i) := (h.dom _).2 (.inr (List.prefix_refl _))
  have e : p.take i = p := by rw [hi, List.take_length]
  refine ⟨{ T' with g := fun q => if q = p.take i then max (T'.g (p.take i)) g else T'.g q }, ⟨?_, h.step.trans (Step.setGrant h.trie hD _ _), ?_, ?_⟩⟩
  · have h1 := h.trie.setGrant hD (max (T'.g (p.take i)) g)
    rw [← hi]; exact h1
  · intro q
    have := h.dom q
    rw [e] at this
    exact this
  · intro q
    rw [e]
    by_cases e2 : q = p
    · simp only [if_pos e2]; rw [h.gr p, e2]
    · simp only [if_neg e2]; exact h.gr q

set_option maxRecDepth 100000 in
set_option maxHeartbeats 3200000 in
theorem add_plain {B : Nat} {T : Shape} {N : Nat} {w : World} (h : Trie B T N w) (hz : ∀ q, ¬ T.D q → T.g q = 0) (hm : MaxL w) (p : ByteArray) (hps : p.size ≤ 1048576) (hN : N + p.size ≤ 1048576) (gr : Nat) (hno : Lib.contains p.data.toList word = false) :
    Calls Tryd.prog 19 #[.pointer (some ⟨T.A [], 0, none⟩), .int .u8 gr, .string p] w fun e w' => e = .returned (.tuple #[]) ∧ ∃ T', Added B T w T' w' N p.data.toList gr := by
  obtain ⟨i0, hi0, hz0, hz1, hz2⟩ := info_parts info57
  have cc := contains_any p w hm hps
  rw [hno] at cc
  have hlen : p.data.toList.length = p.size := by rw [Array.length_toList]; rfl
  have HL : Hid (p.data.toList.length = p.size) := hlen
  clear hlen
  have HZ : Hid (∀ q, ¬ T.D q → T.g q = 0) := hz
  clear hz
  go_enter Tryd.func19, Tryd.ntmps19
  go_wp2_with (go_at_call 24; refine cc.mono ?_; rintro e w2 ⟨rfl, hw2⟩; rw [hw2]; clear hw2)
  go_loopw [29, 6] (fun ix np wr => ∃ (i : Nat) (T' : Shape), i ≤ p.size ∧ ix = .int .i64 i ∧ np = .pointer (some ⟨T'.A (p.data.toList.take i), 0, none⟩) ∧ Hid (Grown B T w T' wr N p.data.toList i)) (fun ix _ _ => p.size - (RowKit.intOf ix).toNat)
  case atStart => exact ⟨0, T, Nat.zero_le _, rfl, rfl, Grown.first h _⟩
  case round =>
    obtain ⟨i, T', hi, rfl, rfl, HG⟩ := hrel
    by_cases hlt : i < p.size
    · have hD : T'.D (p.data.toList.take i) := (HG.out.dom _).2 (.inr (List.prefix_refl _))
      have ck := child_any HG.out.trie (by omega) hD p[i]
      by_cases hin : p[i] ∈ T'.E (p.data.toList.take i)
      · have hkid : kid T' (p.data.toList.take i) p[i] = some ⟨T'.A (p.data.toList.take i ++ [p[i]]), 0, none⟩ := by unfold kid; rw [if_pos hin]
        rw [hkid] at ck
        clear hkid
        have HI : Hid (p[i] ∈ T'.E (p.data.toList.take i)) := hin
        clear hin hD
        go_wp2_with (go_at_call 22; refine ck.mono ?_; rintro e w3 ⟨rfl, hb3⟩)
        have hl : i < p.data.toList.length := by have := HL.out; omega
        refine ⟨⟨i + 1, T', by omega, by go_num, ?_, (HG.out.hop hb3).same hl HI.out⟩, by simp [RowKit.intOf]; omega⟩
        rw [List.take_succ_eq_append_getElem hl]; rfl
      · have hkid : kid T' (p.data.toList.take i) p[i] = none := by unfold kid; rw [if_neg hin]
        rw [hkid] at ck
        clear hkid
        have HI : Hid (p[i] ∉ T'.E (p.data.toList.take i)) := hin
        clear hin
        go_wp2_with (go_at_call 22; refine ck.mono ?_; rintro e w3 ⟨rfl, hb3⟩)
        have HG3 : Hid (Grown B T w T' w3 N p.data.toList i) := HG.out.hop hb3
        have ht3 := HG3.out.trie
        have ht5 := ht3.below ((Below.refl _ _).alloc (Nat.le_refl _) (Obj.cells #[Value.int IntKind.u8 0, Value.slice none 0 0] 41))
        clear ht3 hb3 HG ck
        generalize hk : w3.heap.size = k at ⊢
        have HK : Hid (w3.heap.size = k) := hk
        clear hk
        generalize hw5 : w3.alloc (Obj.cells #[Value.int IntKind.u8 0, Value.slice none 0 0] 41) = w5 at ht5 ⊢
        have HW : Hid (w3.alloc (Obj.cells #[Value.int IntKind.u8 0, Value.slice none 0 0] 41) = w5) := hw5
        clear hw5
        have hc := ht5.next _ hD
        have hf := ht5.free _ hD 1
        have hown := ht5.row _ hD
        have ag : (T'.V (p.data.toList.take i)).ownBlock ≠ some (T'.A (p.data.toList.take i)) := fun e => ht5.rowNe hD hD e rfl
        have hla := (ht5.addr _ hD).2.1
        have hsh := ht5.short _ hD
        have hB5 := ht5.base
        clear hD
        generalize hVV : T'.V (p.data.toList.take i) = V at hc hown ag ⊢
        have HV : Hid (T'.V (p.data.toList.take i) = V) := hVV
        generalize hAA : T'.A (p.data.toList.take i) = a at hc hf ag hla ⊢
        have HA : Hid (T'.A (p.data.toList.take i) = a) := hAA
        clear hVV hAA ht5
        go_region_law ((refine step_append_lies _ (by rfl) _ _ _ (by rfl) B 57 i0 _ 2 16 Tryd.underlying39 hi0 hz0 hz1 hz2 rfl (by omega) V _ _ (by simp [Act.eval]) ((hown.alloc _).drew) ⟨w5.heap.size, 0, none⟩ 1 1 [.int .u8 p[i].toNat, .pointer (some ⟨k, 0, none⟩)] (by simp [Act.eval]) (by rfl) (World.news_of_block (cs := #[.int .u8 p[i].toNat, .pointer (some ⟨k, 0, none⟩)]) (t := 57) (fr := (0, 0)) (heap_alloc_new w5 _)) (by simp [Value.oneCell']) (by omega) (by unfold maxLen; omega) (by omega) (by simp; omega) (w5.heap.size + 1) (by simp) ?_; intro gg cap w1 hown1 hgrow hat hlt; have hfz : w1.frozen? ⟨a, 1, none⟩ = false := (by rw [hgrow.frozen_far _ (by simp; omega) (Ne.symm ag)]; simp [go_sem, hf, hla]); have hcz : w1.cell? ⟨a, 1, none⟩ = some V := (by rw [hgrow.cell_far _ (by simp; omega) (Ne.symm ag)]; simp [go_sem, hc, hla])))
        all_goals
          go_wp2
          have hl : i < p.data.toList.length := by have := HL.out; omega
          have HK1 := HK.out
          have HW1 := HW.out
          subst HK1 HW1
          rw [← HV.out] at hgrow hat
          obtain ⟨T'', G, hA'⟩ := HG3.out.made HZ.out hl HI.out hown1 hgrow hat
          rw [HA.out] at G
          refine ⟨⟨i + 1, T'', by omega, by go_num, by rw [hA'], G⟩, by simp [RowKit.intOf]; omega⟩
    · have hD : T'.D (p.data.toList.take i) := (HG.out.dom _).2 (.inr (List.prefix_refl _))
      have hc := HG.out.trie.grant _ hD
      have hf := HG.out.trie.free _ hD 0
      go_wp2
      go_end0
      have hl : i = p.data.toList.length := by have := HL.out; omega
      have em : max (T'.g (p.data.toList.take i) : Int) (gr : Int) = ((max (T'.g (p.data.toList.take i)) gr : Nat) : Int) := by omega
      rw [em]
      exact ⟨rfl, HG.out.last hl gr⟩
end Go.Proofs.Qxb6604794aDoor
