/- (*ruleSet).allows. -/
import Derived.Test.Qxb6604794aDoorAdd2
namespace Go.Proofs.Qxb6604794aDoor
open Go.RowKit

def treeHit (g : List UInt8 → Nat) (K : List UInt8) (wrt : Bool) : Prop := ∃ j, j ≤ K.length ∧ grantOk (g (K.take j)) wrt = true
def tmHit (ts : List Tp) (cl K : List UInt8) (wrt : Bool) : Prop := cl ≠ [] ∧ ∃ t ∈ ts, grantOk t.g wrt = true ∧ cov cl false (bl (parts t.pre)) K = true

theorem KeyV.form {v : Value} {K : List UInt8} {w : World} (h : KeyV v K w) : ∃ (a : Option Addr) (n c : Nat), v = .slice a n c ∧ K.length = n ∧ (0 < n → ∃ g off, a = some ⟨g, off, none⟩ ∧ Bys g off K w) := by
  rcases h with ⟨rfl, rfl⟩ | ⟨g, off, n, c, rfl, e1, e2, e3⟩
  · exact ⟨none, 0, 0, rfl, rfl, fun h => absurd h (Nat.lt_irrefl _)⟩
  · exact ⟨_, n, c, rfl, e1, fun _ => ⟨g, off, rfl, e3⟩⟩

theorem tmCells_get : ∀ (ts : List Tp) (j : Nat) (t : Tp), ts[j]? = some t → (tmCells ts)[2 * j]? = some (.int .u8 t.g) ∧ (tmCells ts)[2 * j + 1]? = some (.slice (some ⟨t.blk, 0, none⟩) (parts t.pre).length (parts t.pre).length)
  | [], _, _, h => by simp at h
  | b :: ts, 0, t, h => by
    obtain rfl : b = t := by simpa using h
    exact ⟨rfl, rfl⟩
  | b :: ts, j + 1, t, h => by
    have ih := tmCells_get ts j t (by simpa using h)
    have e1 : 2 * (j + 1) = 2 * j + 1 + 1 := by omega
    rw [e1]
    simpa [tmCells] using ih

theorem Tm.form {B : Nat} {T : Shape} {ts : List Tp} {VT : Value} {w : World} (h : Tm B T ts VT w) (hpl : ∀ t ∈ ts, (parts t.pre).length ≤ 1048576) : ∃ (a : Option Addr) (c : Nat), VT = .slice a ts.length c ∧
    (0 < ts.length → ∃ g, a = some ⟨g, 0, none⟩ ∧ g < w.heap.size ∧ ∀ k, k < ts.length → ∃ t : Tp, ts[k]? = some t ∧ w.cell? ⟨g, k * 2, none⟩ = some (.int .u8 t.g) ∧ w.cell? ⟨g, k * 2 + 1, none⟩ = some (.slice (some ⟨t.blk, 0, none⟩) (parts t.pre).length (parts t.pre).length) ∧
      Strs (some ⟨t.blk, 0, none⟩) (parts t.pre).length (parts t.pre) w ∧ (parts t.pre).length ≤ 1048576) := by
  have hrow := h.row
  rcases hrow.2 with ⟨hv, hn⟩ | ⟨g, cap, cur, hv, hb, hg, hcap, _, _, _⟩
  · exact ⟨none, 0, by rw [hv, hn], fun h => absurd h (by omega)⟩
  · refine ⟨_, cap, hv, fun _ => ⟨g, rfl, ?_, fun k hk => ?_⟩⟩
    · rw [hv] at hrow
      exact (hrow.lt g rfl).2
    · rw [hv] at hrow
      have hk2 := List.getElem?_eq_getElem hk
      obtain ⟨e1, e2⟩ := tmCells_get ts k _ hk2
      obtain ⟨p1, p2, p3⟩ := h.part k _ hk2
      refine ⟨ts[k], hk2, (hrow.cellAt (k * 2) (by omega)).trans (by rw [Nat.mul_comm]; exact e1), (hrow.cellAt (k * 2 + 1) (by omega)).trans (by rw [Nat.mul_comm]; exact e2), ⟨rfl, fun _ => ⟨_, 0, rfl, p2, fun j hj => ?_⟩⟩, hpl _ (List.getElem_mem _)⟩
      rw [cell_of_row _ _ _ _ _ _ p3]
      simp [List.getD_eq_getElem?_getD, hj]

theorem allows_nil (v : Value) (cl : ByteArray) (wrt : Bool) (w : World) :
    Calls Tryd.prog 18 #[.pointer none, .string cl, .bool wrt, v] w fun e w' => e = .returned (.bool false) ∧ w' = w := by
  go_enter Tryd.func18, Tryd.ntmps18
  go_wp2
  go_ret
  exact ⟨rfl, rfl⟩

theorem Trie.deep {B : Nat} {T : Shape} {N : Nat} {w : World} (h : Trie B T N w) {K : List UInt8} {i : Nat} (hi : ¬ T.D (K.take i)) : ∀ j, i ≤ j → ¬ T.D (K.take j) := by
  intro j hj
  induction j with
  | zero => have : i = 0 := by omega
            rw [this] at hi; exact hi
  | succ j ih =>
    by_cases e : i = j + 1
    · rw [← e]; exact hi
    · rcases Nat.lt_or_ge j K.length with h1 | h1
      · rw [List.take_succ_eq_append_getElem h1]
        exact fun e2 => ih (by omega) (h.up _ _ e2)
      · rw [List.take_of_length_le (by omega)]
        have := ih (by omega)
        rwa [List.take_of_length_le h1] at this

theorem grantOk_zero (b : Bool) : grantOk ((0 : Nat) : Int) b = false := rfl

set_option maxRecDepth 100000 in
set_option maxHeartbeats 3200000 in
theorem allows_any {B : Nat} {T : Shape} {N : Nat} {ts : List Tp} {VT v : Value} {K : List UInt8} {w : World} (h : Trie B T N w) (hz : ∀ q, ¬ T.D q → T.g q = 0) (hN : N ≤ 1048576) (ht : Tm B T ts VT w) (hpl : ∀ t ∈ ts, (parts t.pre).length ≤ 1048576) (hts : ts.length ≤ 1048576)
    (hkv : KeyV v K w) (hKl : K.length ≤ 1048576) (cl : ByteArray) (wrt R : Bool) (hR : R = true ↔ treeHit T.g K wrt ∨ tmHit ts cl.data.toList K wrt) :
    Calls Tryd.prog 18 #[.pointer (some ⟨T.A [], 0, none⟩), .string cl, .bool wrt, v] w fun e w' => e = .returned (.bool R) ∧ Below w.heap.size w w' := by
  obtain ⟨ka, n, c, rfl, hn, hk0⟩ := hkv.form
  have HKV : Hid (KeyV (.slice ka n c) K w) := hkv
  have HK : Hid (0 < n → ∃ g off, ka = some ⟨g, off, none⟩ ∧ Bys g off K w) := hk0
  obtain ⟨va, vc, hvt, hv0⟩ := ht.form hpl
  have hc := ht.cell
  rw [hvt] at hc
  have hla := (h.addr [] h.root).2.1
  have HT : Hid (Trie B T N w ∧ ∀ q, ¬ T.D q → T.g q = 0) := ⟨h, hz⟩
  have HR : Hid (R = true ↔ treeHit T.g K wrt ∨ tmHit ts cl.data.toList K wrt) := hR
  generalize hm : ts.length = m at hc hv0 hts
  have HL : Hid (ts.length = m) := hm
  have HVT : Hid (0 < m → ∃ g, va = some ⟨g, 0, none⟩ ∧ g < w.heap.size ∧ ∀ k, k < m → ∃ t : Tp, ts[k]? = some t ∧ w.cell? ⟨g, k * 2, none⟩ = some (.int .u8 t.g) ∧ w.cell? ⟨g, k * 2 + 1, none⟩ = some (.slice (some ⟨t.blk, 0, none⟩) (parts t.pre).length (parts t.pre).length) ∧
      Strs (some ⟨t.blk, 0, none⟩) (parts t.pre).length (parts t.pre) w ∧ (parts t.pre).length ≤ 1048576) := hv0
  have hroot := h.root
  have HA : Hid (∃ a, a = T.A []) := ⟨_, rfl⟩
  obtain ⟨a, ha⟩ := HA.out
  rw [← ha] at hc hla ⊢
  have HAA : Hid (a = T.A []) := ha
  clear hkv hk0 hv0 hR hm hvt ht hpl h hz ha HA
  go_enter Tryd.func18, Tryd.ntmps18
  go_wp2_with fail
  go_loopw [9, 10] (fun np ix wr => ∃ (i : Nat) (pt : Option Addr), i ≤ n ∧ ix = .int .i64 i ∧ np = .pointer pt ∧ Hid ((pt = none ∧ ¬ T.D (K.take i)) ∨ (pt = some ⟨T.A (K.take i), 0, none⟩ ∧ T.D (K.take i))) ∧ Hid (∀ j, j < i → grantOk (T.g (K.take j)) wrt = false) ∧ Below w.heap.size w wr) (fun _ ix _ => n - (RowKit.intOf ix).toNat)
  case atStart => exact ⟨0, _, Nat.zero_le _, rfl, rfl, .inr ⟨by rw [HAA.out]; rfl, hroot⟩, fun _ h => absurd h (Nat.not_lt_zero _), Below.refl _ _⟩
  case round =>
    obtain ⟨i, pt, hi, rfl, rfl, HP, HM0, hb⟩ := hrel
    rcases HP.out with ⟨rfl, hnD⟩ | ⟨rfl, hD⟩
    · have HM : Hid (∀ j, j ≤ K.length → grantOk (T.g (K.take j)) wrt = false) := by
        intro j _
        rcases Nat.lt_or_ge j i with h1 | h1
        · exact HM0.out j h1
        · rw [HT.out.2 _ (HT.out.1.deep hnD j h1)]; rfl
      clear HP HM0 hnD
      by_cases he : cl.data.toList = []
      · have hei : cl.toList.isEmpty = true := by rw [ByteArray.toList_eq, he]; rfl
        have HF : Hid (R = false) := by
          show _ = _
          rw [← Bool.not_eq_true, HR.out]
          rintro (⟨j, hj, h1⟩ | ⟨h1, _⟩)
          · rw [HM.out j hj] at h1; cases h1
          · exact h1 he
        clear he HM HR
        go_wp2_with fail
        go_ret
        exact ⟨ret_bool HF.out.symm, hb⟩
      · have hei : cl.toList.isEmpty = false := by rw [ByteArray.toList_eq, List.isEmpty_eq_false_iff]; exact he
        have HR2 : Hid (R = true ↔ ∃ t ∈ ts, grantOk t.g wrt = true ∧ cov cl.data.toList false (bl (parts t.pre)) K = true) := by
          show _ ↔ _
          rw [HR.out]
          constructor
          · rintro (⟨j, hj, h1⟩ | ⟨_, h1⟩)
            · rw [HM.out j hj] at h1; cases h1
            · exact h1
          · exact fun h1 => .inr ⟨he, h1⟩
        clear he HM HR
        have hc2 := (hb.cell (p := ⟨a, 2, none⟩) hla).trans hc
        go_wp2_with fail
        clear hc2
        go_loopw [45] (fun ix wi => ∃ k : Nat, k ≤ m ∧ ix = .int .i64 k ∧ Hid (∀ (j : Nat) (t : Tp), j < k → ts[j]? = some t → ¬ (grantOk t.g wrt = true ∧ cov cl.data.toList false (bl (parts t.pre)) K = true)) ∧ Below w.heap.size w wi) (fun ix _ => m - (RowKit.intOf ix).toNat)
        case atStart => exact ⟨0, Nat.zero_le _, rfl, fun _ _ h => absurd h (Nat.not_lt_zero _), hb⟩
        case round =>
          obtain ⟨k, hk, rfl, HN, hbi⟩ := hrel
          by_cases hkm : k < m
          · obtain ⟨gb, rfl, hgl, hcells⟩ := HVT.out (by omega)
            obtain ⟨t, ht, e0, e1, hst, hpl⟩ := hcells k hkm
            have HTk : Hid (ts[k]? = some t) := ht
            clear hcells ht
            rw [← hbi.cell (p := ⟨gb, k * 2, none⟩) hgl] at e0
            rw [← hbi.cell (p := ⟨gb, k * 2 + 1, none⟩) hgl] at e1
            have cg := grantAllows_any t.g wrt
            obtain ⟨q, hq⟩ : ∃ q, grantOk t.g wrt = q := ⟨_, rfl⟩
            rw [hq] at cg
            have HQ : Hid (grantOk t.g wrt = q) := hq
            clear hq
            have HS : Hid (Strs (some ⟨t.blk, 0, none⟩) (parts t.pre).length (parts t.pre) wr) := hst.below hbi
            clear hst
            have cv := fun (w2 : World) (hb2 : Below wr.heap.size wr w2) => covers_any t.g (some ⟨t.blk, 0, none⟩) (parts t.pre).length (parts t.pre).length (parts t.pre) cl _ K w2 hpl (HS.out.below hb2) ((HKV.out.below hbi).below hb2)
            obtain ⟨q2, hq2⟩ : ∃ q2, cov cl.data.toList false (bl (parts t.pre)) K = q2 := ⟨_, rfl⟩
            rw [hq2] at cv
            have HQ2 : Hid (cov cl.data.toList false (bl (parts t.pre)) K = q2) := hq2
            clear hq2
            generalize (parts t.pre).length = pl at e1 cv
            cases q
            · go_wp2_with (go_at_call 21; refine (cg _).mono ?_; rintro e w2 ⟨rfl, hw2⟩; rw [hw2]; clear hw2)
              refine ⟨⟨k + 1, by omega, by go_num, ?_, hbi.alloc hbi.size _⟩, by simp [RowKit.intOf]; omega⟩
              intro j t2 hj h2 h3
              by_cases e : j = k
              · rw [e, HTk.out] at h2
                cases h2
                rw [HQ.out] at h3; cases h3.1
              · exact HN.out j t2 (by omega) h2 h3
            · cases q2
              · go_wp2_with (first | (go_at_call 21; refine (cg _).mono ?_; rintro e w2 ⟨rfl, hw2⟩; rw [hw2]; clear hw2) | (go_at_call 23; refine (cv _ ((Below.refl _ _).alloc (Nat.le_refl _) _)).mono ?_; rintro e w3 ⟨rfl, hb3⟩))
                refine ⟨⟨k + 1, by omega, by go_num, ?_, (hbi.alloc hbi.size _).trans (hb3.mono (by simp; have := hbi.size; omega))⟩, by simp [RowKit.intOf]; omega⟩
                intro j t2 hj h2 h3
                by_cases e : j = k
                · rw [e, HTk.out] at h2
                  cases h2
                  rw [HQ2.out] at h3; cases h3.2
                · exact HN.out j t2 (by omega) h2 h3
              · have HF : Hid (R = true) := HR2.out.2 ⟨t, List.mem_of_getElem? HTk.out, HQ.out, HQ2.out⟩
                go_wp2_with (first | (go_at_call 21; refine (cg _).mono ?_; rintro e w2 ⟨rfl, hw2⟩; rw [hw2]; clear hw2) | (go_at_call 23; refine (cv _ ((Below.refl _ _).alloc (Nat.le_refl _) _)).mono ?_; rintro e w3 ⟨rfl, hb3⟩))
                go_ret
                exact ⟨ret_bool HF.out.symm, (hbi.alloc hbi.size _).trans (hb3.mono (by simp; have := hbi.size; omega))⟩
          · have HF : Hid (R = false) := by
              show _ = _
              rw [← Bool.not_eq_true, HR2.out]
              rintro ⟨t, ht, h1⟩
              obtain ⟨j, hj, e⟩ := List.getElem_of_mem ht
              exact HN.out j t (by have := HL.out; omega) (by rw [List.getElem?_eq_getElem hj, e]) h1
            go_wp2_with fail
            go_ret
            exact ⟨ret_bool HF.out.symm, hbi⟩
    · have hcg := (HT.out.1.below hb).grant _ hD
      have ck := fun (b : UInt8) => child_any (HT.out.1.below hb) hN hD b
      have HD : Hid (T.D (K.take i)) := hD
      have cg := grantAllows_any (T.g (K.take i)) wrt
      obtain ⟨q, hq⟩ : ∃ q, grantOk (T.g (K.take i)) wrt = q := ⟨_, rfl⟩
      rw [hq] at cg
      have HQ : Hid (grantOk (T.g (K.take i)) wrt = q) := hq
      clear hq hD
      generalize hAi : T.A (K.take i) = ai at hcg ck
      cases q
      · have HM1 : Hid (∀ j, j < i + 1 → grantOk (T.g (K.take j)) wrt = false) := by
          intro j hj
          by_cases e : j = i
          · rw [e]; exact HQ.out
          · exact HM0.out j (by omega)
        clear HM0 HQ
        by_cases hlt : i < n
        · obtain ⟨kb, off, rfl, hby⟩ := HK.out (by omega)
          have hck : wr.cell? ⟨kb, off + i, none⟩ = some (.int .u8 (K.getD i 0).toNat) := (hb.cell (p := ⟨kb, off + i, none⟩) hby.lt).trans (hby.cell i (by omega))
          have ck1 := ck (K.getD i 0)
          have HX : Hid (K.take (i + 1) = K.take i ++ [K.getD i 0]) := by
            show _ = _
            rw [List.take_succ_eq_append_getElem (by omega), getD_lt (by omega)]
          generalize K.getD i 0 = x at hck ck1 HX
          have hpt : Hid ((kid T (K.take i) x = none ∧ ¬ T.D (K.take (i + 1))) ∨ (kid T (K.take i) x = some ⟨T.A (K.take (i + 1)), 0, none⟩ ∧ T.D (K.take (i + 1)))) := by
            have hk := HT.out.1.kids (K.take i) x HD.out
            show _ ∨ _
            rw [HX.out]
            unfold kid
            by_cases e : x ∈ T.E (K.take i)
            · exact .inr ⟨if_pos e, hk.1 e⟩
            · exact .inl ⟨if_neg e, fun e2 => e (hk.2 e2)⟩
          generalize kid T (K.take i) x = pt at ck1 hpt
          clear ck HP
          go_wp2_with (first | (go_at_call 21; refine (cg _).mono ?_; rintro e w2 ⟨rfl, hw2⟩; rw [hw2]; clear hw2) | (go_at_call 22; refine ck1.mono ?_; rintro e w3 ⟨rfl, hb3⟩))
          exact ⟨⟨i + 1, pt, by omega, by go_num, rfl, hpt, HM1, hb.trans (hb3.mono hb.size)⟩, by simp [RowKit.intOf]; omega⟩
        · have HM : Hid (∀ j, j ≤ K.length → grantOk (T.g (K.take j)) wrt = false) := fun j hj => HM1.out j (by omega)
          clear HM1 HP ck
          have hie : ((i : Int) == (n : Int)) = true := by rw [beq_iff_eq]; omega
          by_cases he : cl.data.toList = []
          · have hei : cl.toList.isEmpty = true := by rw [ByteArray.toList_eq, he]; rfl
            have HF : Hid (R = false) := by
              show _ = _
              rw [← Bool.not_eq_true, HR.out]
              rintro (⟨j, hj, h1⟩ | ⟨h1, _⟩)
              · rw [HM.out j hj] at h1; cases h1
              · exact h1 he
            clear he HM HR
            go_wp2_with (go_at_call 21; refine (cg _).mono ?_; rintro e w2 ⟨rfl, hw2⟩; rw [hw2]; clear hw2)
            go_ret
            exact ⟨ret_bool HF.out.symm, hb⟩
          · have hei : cl.toList.isEmpty = false := by rw [ByteArray.toList_eq, List.isEmpty_eq_false_iff]; exact he
            have HR2 : Hid (R = true ↔ ∃ t ∈ ts, grantOk t.g wrt = true ∧ cov cl.data.toList false (bl (parts t.pre)) K = true) := by
              show _ ↔ _
              rw [HR.out]
              constructor
              · rintro (⟨j, hj, h1⟩ | ⟨_, h1⟩)
                · rw [HM.out j hj] at h1; cases h1
                · exact h1
              · exact fun h1 => .inr ⟨he, h1⟩
            clear he HM HR
            have hc2 := (hb.cell (p := ⟨a, 2, none⟩) hla).trans hc
            go_wp2_with (go_at_call 21; refine (cg _).mono ?_; rintro e w2 ⟨rfl, hw2⟩; rw [hw2]; clear hw2)
            clear hc2
            go_loopw [45] (fun ix wi => ∃ k : Nat, k ≤ m ∧ ix = .int .i64 k ∧ Hid (∀ (j : Nat) (t : Tp), j < k → ts[j]? = some t → ¬ (grantOk t.g wrt = true ∧ cov cl.data.toList false (bl (parts t.pre)) K = true)) ∧ Below w.heap.size w wi) (fun ix _ => m - (RowKit.intOf ix).toNat)
            case atStart => exact ⟨0, Nat.zero_le _, rfl, fun _ _ h => absurd h (Nat.not_lt_zero _), hb⟩
            case round =>
              obtain ⟨k, hk, rfl, HN, hbi⟩ := hrel
              by_cases hkm : k < m
              · obtain ⟨gb, rfl, hgl, hcells⟩ := HVT.out (by omega)
                obtain ⟨t, ht, e0, e1, hst, hpl⟩ := hcells k hkm
                have HTk : Hid (ts[k]? = some t) := ht
                clear hcells ht
                rw [← hbi.cell (p := ⟨gb, k * 2, none⟩) hgl] at e0
                rw [← hbi.cell (p := ⟨gb, k * 2 + 1, none⟩) hgl] at e1
                have cg := grantAllows_any t.g wrt
                obtain ⟨q, hq⟩ : ∃ q, grantOk t.g wrt = q := ⟨_, rfl⟩
                rw [hq] at cg
                have HQ : Hid (grantOk t.g wrt = q) := hq
                clear hq
                have HS : Hid (Strs (some ⟨t.blk, 0, none⟩) (parts t.pre).length (parts t.pre) wr) := hst.below hbi
                clear hst
                have cv := fun (w2 : World) (hb2 : Below wr.heap.size wr w2) => covers_any t.g (some ⟨t.blk, 0, none⟩) (parts t.pre).length (parts t.pre).length (parts t.pre) cl _ K w2 hpl (HS.out.below hb2) ((HKV.out.below hbi).below hb2)
                obtain ⟨q2, hq2⟩ : ∃ q2, cov cl.data.toList false (bl (parts t.pre)) K = q2 := ⟨_, rfl⟩
                rw [hq2] at cv
                have HQ2 : Hid (cov cl.data.toList false (bl (parts t.pre)) K = q2) := hq2
                clear hq2
                generalize (parts t.pre).length = pl at e1 cv
                cases q
                · go_wp2_with (go_at_call 21; refine (cg _).mono ?_; rintro e w2 ⟨rfl, hw2⟩; rw [hw2]; clear hw2)
                  refine ⟨⟨k + 1, by omega, by go_num, ?_, hbi.alloc hbi.size _⟩, by simp [RowKit.intOf]; omega⟩
                  intro j t2 hj h2 h3
                  by_cases e : j = k
                  · rw [e, HTk.out] at h2
                    cases h2
                    rw [HQ.out] at h3; cases h3.1
                  · exact HN.out j t2 (by omega) h2 h3
                · cases q2
                  · go_wp2_with (first | (go_at_call 21; refine (cg _).mono ?_; rintro e w2 ⟨rfl, hw2⟩; rw [hw2]; clear hw2) | (go_at_call 23; refine (cv _ ((Below.refl _ _).alloc (Nat.le_refl _) _)).mono ?_; rintro e w3 ⟨rfl, hb3⟩))
                    refine ⟨⟨k + 1, by omega, by go_num, ?_, (hbi.alloc hbi.size _).trans (hb3.mono (by simp; have := hbi.size; omega))⟩, by simp [RowKit.intOf]; omega⟩
                    intro j t2 hj h2 h3
                    by_cases e : j = k
                    · rw [e, HTk.out] at h2
                      cases h2
                      rw [HQ2.out] at h3; cases h3.2
                    · exact HN.out j t2 (by omega) h2 h3
                  · have HF : Hid (R = true) := HR2.out.2 ⟨t, List.mem_of_getElem? HTk.out, HQ.out, HQ2.out⟩
                    go_wp2_with (first | (go_at_call 21; refine (cg _).mono ?_; rintro e w2 ⟨rfl, hw2⟩; rw [hw2]; clear hw2) | (go_at_call 23; refine (cv _ ((Below.refl _ _).alloc (Nat.le_refl _) _)).mono ?_; rintro e w3 ⟨rfl, hb3⟩))
                    go_ret
                    exact ⟨ret_bool HF.out.symm, (hbi.alloc hbi.size _).trans (hb3.mono (by simp; have := hbi.size; omega))⟩
              · have HF : Hid (R = false) := by
                  show _ = _
                  rw [← Bool.not_eq_true, HR2.out]
                  rintro ⟨t, ht, h1⟩
                  obtain ⟨j, hj, e⟩ := List.getElem_of_mem ht
                  exact HN.out j t (by have := HL.out; omega) (by rw [List.getElem?_eq_getElem hj, e]) h1
                go_wp2_with fail
                go_ret
                exact ⟨ret_bool HF.out.symm, hbi⟩
      · have HF : Hid (R = true) := HR.out.2 (.inl ⟨i, by omega, HQ.out⟩)
        go_wp2_with (go_at_call 21; refine (cg _).mono ?_; rintro e w2 ⟨rfl, hw2⟩; rw [hw2]; clear hw2)
        go_ret
        exact ⟨ret_bool HF.out.symm, hb⟩
end Go.Proofs.Qxb6604794aDoor
