/- A rule set that holds a list of rules; ZZNewRuleSet, ZZAdd, ZZAllows. -/
import Derived.Test.Qxb6604794aDoorAllows
namespace Go.Proofs.Qxb6604794aDoor
open Go.RowKit

def hasW (p : ByteArray) : Bool := Lib.contains p.data.toList word

/-- the set at block r holds the rules rs -/
structure Shows (T : Shape) (ts : List Tp) (rs : List (Nat × ByteArray)) : Prop where
  zero : ∀ q, ¬ T.D q → T.g q = 0
  two : ∀ q, T.g q ≤ 2
  tree : ∀ q wrt, grantOk (T.g q) wrt = true ↔ ∃ ru ∈ rs, hasW ru.2 = false ∧ ru.2.data.toList = q ∧ grantOk ru.1 wrt = true
  tmpl : ts.map (fun t => (t.g, t.pre)) = rs.filter (fun ru => hasW ru.2)

def Holds (B r : Nat) (rs : List (Nat × ByteArray)) (N : Nat) (w : World) : Prop :=
  ∃ T ts VT, T.A [] = r ∧ Trie B T N w ∧ Tm B T ts VT w ∧ Shows T ts rs

theorem Holds.below {B r N : Nat} {rs : List (Nat × ByteArray)} {w w' : World} (h : Holds B r rs N w) (hb : Below w.heap.size w w') : Holds B r rs N w' := by
  obtain ⟨T, ts, VT, h1, h2, h3, h4⟩ := h
  exact ⟨T, ts, VT, h1, h2.below hb, h3.below (h2.addr [] h2.root).2.1 hb, h4⟩

theorem grantOk_max {a b : Nat} (ha : a ≤ 2) (hb : b ≤ 2) (wrt : Bool) : grantOk ((max a b : Nat) : Int) wrt = true ↔ grantOk a wrt = true ∨ grantOk b wrt = true := by
  obtain rfl | rfl | rfl : a = 0 ∨ a = 1 ∨ a = 2 := by omega
  all_goals
    obtain rfl | rfl | rfl : b = 0 ∨ b = 1 ∨ b = 2 := by omega
    all_goals cases wrt <;> decide

theorem Shows.added {T T' : Shape} {ts : List Tp} {rs : List (Nat × ByteArray)} (h : Shows T ts rs) (p : ByteArray) (g : Nat) (hg : g ≤ 2) (hw : hasW p = false)
    (hd : ∀ q, T'.D q ↔ T.D q ∨ q <+: p.data.toList) (hgr : ∀ q, T'.g q = if q = p.data.toList then max (T.g q) g else T.g q) : Shows T' ts (rs ++ [(g, p)]) where
  zero q hq := by
    have h1 : ¬ T.D q := fun e => hq ((hd q).2 (.inl e))
    have h2 : q ≠ p.data.toList := fun e => hq ((hd q).2 (.inr (e ▸ List.prefix_refl _)))
    rw [hgr q, if_neg h2]; exact h.zero q h1
  two q := by
    rw [hgr q]
    have := h.two q
    split <;> omega
  tree q wrt := by
    have ht := h.tree q wrt
    have hx : (∃ ru ∈ rs ++ [(g, p)], hasW ru.2 = false ∧ ru.2.data.toList = q ∧ grantOk ru.1 wrt = true) ↔ (∃ ru ∈ rs, hasW ru.2 = false ∧ ru.2.data.toList = q ∧ grantOk ru.1 wrt = true) ∨ (p.data.toList = q ∧ grantOk g wrt = true) := by
      constructor
      · rintro ⟨ru, hm, h1⟩
        rcases List.mem_append.1 hm with h2 | h2
        · exact .inl ⟨ru, h2, h1⟩
        · rw [List.mem_singleton.1 h2] at h1; exact .inr h1.2
      · rintro (⟨ru, hm, h1⟩ | h1)
        · exact ⟨ru, List.mem_append_left _ hm, h1⟩
        · exact ⟨(g, p), List.mem_append_right _ (List.mem_singleton.2 rfl), hw, h1⟩
    rw [hx, ← ht, hgr q]
    by_cases e : q = p.data.toList
    · rw [if_pos e, grantOk_max (h.two q) hg]
      exact or_congr Iff.rfl ⟨fun h1 => ⟨e.symm, h1⟩, fun h1 => h1.2⟩
    · rw [if_neg e]
      exact ⟨.inl, fun h1 => h1.elim id (fun h2 => absurd h2.1.symm e)⟩
  tmpl := by rw [List.filter_append, h.tmpl]; simp [hw]

theorem Shows.put {T T' : Shape} {ts : List Tp} {rs : List (Nat × ByteArray)} (h : Shows T ts rs) (p : ByteArray) (g : Nat) (hw : hasW p = true) (tp : Tp) (e1 : tp.g = g) (e2 : tp.pre = p)
    (hd : T'.D = T.D) (hgr : T'.g = T.g) : Shows T' (ts ++ [tp]) (rs ++ [(g, p)]) where
  zero := by rw [hd, hgr]; exact h.zero
  two := by rw [hgr]; exact h.two
  tree q wrt := by
    rw [hgr, h.tree q wrt]
    constructor
    · rintro ⟨ru, hm, h1⟩
      exact ⟨ru, List.mem_append_left _ hm, h1⟩
    · rintro ⟨ru, hm, h1⟩
      rcases List.mem_append.1 hm with h2 | h2
      · exact ⟨ru, h2, h1⟩
      · rw [List.mem_singleton.1 h2] at h1
        have h3 := h1.1
        rw [show (g, p).2 = p from rfl, hw] at h3; cases h3
  tmpl := by rw [List.filter_append, List.map_append, h.tmpl]; simp [hw, e1, e2]

theorem Shows.short {T : Shape} {ts : List Tp} {rs : List (Nat × ByteArray)} (h : Shows T ts rs) : ts.length ≤ rs.length := by
  have := congrArg List.length h.tmpl
  rw [List.length_map] at this
  rw [this]; exact List.length_filter_le _ _

def shape0 (k : Nat) : Shape where
  D q := q = []
  A _ := k
  g _ := 0
  E _ := []
  V _ := .slice none 0 0
  tag m := if m = k then .node [] else .other

theorem holds_new (B : Nat) (w : World) (hB : B ≤ w.heap.size) : Holds B w.heap.size [] 0 (w.alloc (.cells #[.int .u8 0, .slice none 0 0, .slice none 0 0] 44)) := by
  have hk := heap_alloc_new w (.cells #[.int .u8 0, .slice none 0 0, .slice none 0 0] 44)
  have hs : (w.alloc (.cells #[.int .u8 0, .slice none 0 0, .slice none 0 0] 44)).heap.size = w.heap.size + 1 := by simp
  generalize w.alloc (.cells #[.int .u8 0, .slice none 0 0, .slice none 0 0] 44) = w1 at hk hs
  refine ⟨shape0 w.heap.size, [], .slice none 0 0, rfl, ?_, ?_, ?_⟩
  · refine ⟨rfl, ?_, ?_, ?_, ?_, ?_, ?_, ?_, ?_, ?_⟩
    · rintro p rfl
      refine ⟨hB, by show w.heap.size < _; omega, ?_⟩
      simp only [shape0, if_true]
    · rintro p rfl
      show w1.cell? ⟨w.heap.size, 0, none⟩ = _
      rw [cell_of_row _ _ _ _ _ _ hk]; rfl
    · rintro p rfl
      show w1.cell? ⟨w.heap.size, 1, none⟩ = _
      rw [cell_of_row _ _ _ _ _ _ hk]; rfl
    · rintro p rfl j
      show w1.frozen? ⟨w.heap.size, j, none⟩ = false
      simp [World.frozen?, hk]
    · rintro p rfl
      exact World.ownsRow_nil _ _ _ _
    · rintro p rfl k hk
      cases hk
    · rintro p b rfl
      exact ⟨fun h => absurd h (by simp [shape0]), fun h => absurd h (by simp [shape0])⟩
    · intro p b h
      exact absurd h (by simp [shape0])
    · intro p _
      exact Nat.zero_le _
  · refine ⟨?_, World.ownsRow_nil _ _ _ _, ?_, ?_⟩
    · show w1.cell? ⟨w.heap.size, 2, none⟩ = _
      rw [cell_of_row _ _ _ _ _ _ hk]; rfl
    · intro k hk
      cases hk
    · intro j t h
      simp at h
  · refine ⟨fun _ _ => rfl, fun _ => Nat.zero_le _, fun q wrt => ?_, rfl⟩
    constructor
    · intro h
      cases h
    · rintro ⟨ru, h, _⟩
      simp at h

theorem new_any (B : Nat) (w : World) (hB : B ≤ w.heap.size) :
    Calls Tryd.prog 11 #[] w fun e w' => e = .returned (.pointer (some ⟨w.heap.size, 0, none⟩)) ∧ Holds B w.heap.size [] 0 w' ∧ Below w.heap.size w w' := by
  have h := holds_new B w hB
  have HH : Hid (Holds B w.heap.size [] 0 (w.alloc (.cells #[.int .u8 0, .slice none 0 0, .slice none 0 0] 44))) := h
  clear h
  go_enter Tryd.func11, Tryd.ntmps11
  go_wp2
  go_ret
  exact ⟨rfl, HH.out, (Below.refl _ _).alloc (Nat.le_refl _) _⟩

theorem add_set {B r N : Nat} {rs : List (Nat × ByteArray)} {w : World} (h : Holds B r rs N w) (hm : MaxL w) (g : Nat) (hg : g ≤ 2) (p : ByteArray) (hps : p.size ≤ 1048576) (hN : N + p.size ≤ 1048576) (hrs : rs.length ≤ 1048576) :
    Calls Tryd.prog 19 #[.pointer (some ⟨r, 0, none⟩), .int .u8 g, .string p] w fun e w' => e = .returned (.tuple #[]) ∧ Holds B r (rs ++ [(g, p)]) (N + p.size) w' ∧ Below B w w' := by
  obtain ⟨T, ts, VT, rfl, h2, h3, h4⟩ := h
  by_cases hw : hasW p = false
  · refine (add_plain h2 h4.zero hm p hps hN g hw).mono ?_
    rintro e w' ⟨rfl, T', a⟩
    have e1 : p.data.toList.length = p.size := by rw [Array.length_toList]; rfl
    have a1 := a.trie
    rw [e1] at a1
    exact ⟨rfl, ⟨T', ts, VT, a.step.root, a1, h3.far a.step.root a.step.sz a.step.two a.step.far, h4.added p g hg hw a.dom a.gr⟩, a.step.bel⟩
  · have hw1 : hasW p = true := by simpa using hw
    have := h4.short
    refine (add_tmpl h2 h3 hm p hps (by omega) g hw1).mono ?_
    rintro e w' ⟨rfl, T', ts', VT', a⟩
    obtain ⟨tp, e1, e2, e3⟩ := a.new
    exact ⟨rfl, ⟨T', ts', VT', by rw [a.root], a.trie.more (by omega), a.tm, by rw [e1]; exact h4.put p g hw1 tp e2 e3 a.dom a.gr⟩, a.bel⟩

theorem zzAdd_any {B r N : Nat} {rs : List (Nat × ByteArray)} {w : World} (h : Holds B r rs N w) (hm : MaxL w) (g : Nat) (hg : g ≤ 2) (p : ByteArray) (hps : p.size ≤ 1048576) (hN : N + p.size ≤ 1048576) (hrs : rs.length ≤ 1048576) :
    Calls Tryd.prog 12 #[.pointer (some ⟨r, 0, none⟩), .int .u8 g, .string p] w fun e w' => e = .returned (.tuple #[]) ∧ Holds B r (rs ++ [(g, p)]) (N + p.size) w' ∧ Below B w w' := by
  have ca := add_set h hm g hg p hps hN hrs
  clear h
  go_enter Tryd.func12, Tryd.ntmps12
  go_wp2_with (go_at_call 19; refine ca.mono ?_; rintro e w2 ⟨rfl, h1, h2⟩)
  go_end0
  exact ⟨rfl, h1, h2⟩

theorem zzAllows_nil (v : Value) (cl : ByteArray) (wrt : Bool) (w : World) :
    Calls Tryd.prog 10 #[.pointer none, .string cl, .bool wrt, v] w fun e w' => e = .returned (.bool false) ∧ w' = w := by
  have ca := allows_nil v cl wrt w
  go_enter Tryd.func10, Tryd.ntmps10
  go_wp2_with (go_at_call 18; refine ca.mono ?_; rintro e w2 ⟨rfl, hw2⟩; rw [hw2]; clear hw2)
  go_ret
  exact ⟨rfl, rfl⟩

/-! The plain law. -/
def wants (rs : List (Nat × ByteArray)) (cl K : List UInt8) (wrt : Bool) : Bool := rs.any fun ru => grantOk ru.1 wrt && rr cl ru.2.data.toList K

theorem hasW_false {p : ByteArray} (h : hasW p = false) : Lib.index p.data.toList word = -1 := by
  unfold hasW Lib.contains at h
  have h1 := of_decide_eq_false h
  rcases Lib.index_spec p.data.toList word with ⟨h2, _⟩ | ⟨i, h2, _⟩
  · exact h2
  · omega

theorem rr_empty_client {p : ByteArray} (h : hasW p = true) (K : List UInt8) : rr [] p.data.toList K = false := by
  unfold hasW Lib.contains at h
  have h1 := of_decide_eq_true h
  rcases Lib.index_spec p.data.toList word with ⟨h2, _⟩ | ⟨i, h2, h3, h4, h5⟩
  · omega
  · rw [rr_skip [] i _ K h3 (fun j hj => h5 j hj), rr_word (p := p.data.toList.drop i) h4]
    simp

theorem cov_parts (cl : List UInt8) (hcl : cl ≠ []) (p : ByteArray) (K : List UInt8) : cov cl false (bl (parts p)) K = rr cl p.data.toList K := by
  have e : bl (parts p) = Lib.splitK word 0 (Lib.countB p ⟨#[123, 99, 108, 105, 101, 110, 116, 125]⟩) p.data.toList := Lib.splitB_data _ _ _ _
  rw [e]
  exact cov_split cl (by rw [List.isEmpty_eq_false_iff]; exact hcl) _ _ _ rfl

theorem Shows.meets {T : Shape} {ts : List Tp} {rs : List (Nat × ByteArray)} (h : Shows T ts rs) (cl K : List UInt8) (wrt : Bool) : wants rs cl K wrt = true ↔ treeHit T.g K wrt ∨ tmHit ts cl K wrt := by
  have hmem : ∀ g p, (g, p) ∈ rs ∧ hasW p = true ↔ ∃ t ∈ ts, t.g = g ∧ t.pre = p := fun g p => by
    have h1 : (g, p) ∈ rs.filter (fun ru => hasW ru.2) ↔ (g, p) ∈ rs ∧ hasW p = true := List.mem_filter
    rw [← h1, ← h.tmpl, List.mem_map]
    constructor
    · rintro ⟨t, ht, e⟩
      injection e with e1 e2
      exact ⟨t, ht, e1, e2⟩
    · rintro ⟨t, ht, e1, e2⟩
      exact ⟨t, ht, by rw [e1, e2]⟩
  unfold wants treeHit tmHit
  rw [List.any_eq_true]
  constructor
  · rintro ⟨⟨g, p⟩, hm, hx⟩
    obtain ⟨hx1, hx2⟩ := Bool.and_eq_true_iff.1 hx
    by_cases hw : hasW p = false
    · rw [rr_none _ _ _ (hasW_false hw), List.isPrefixOf_iff_prefix, List.prefix_iff_eq_take] at hx2
      refine .inl ⟨min p.data.toList.length K.length, Nat.min_le_right _ _, (h.tree _ wrt).2 ⟨(g, p), hm, hw, ?_, hx1⟩⟩
      have hle : p.data.toList.length ≤ K.length := by
        rw [hx2, List.length_take]; exact Nat.min_le_right _ _
      rw [Nat.min_eq_left hle]; exact hx2
    · have hw1 : hasW p = true := by simpa using hw
      by_cases hcl : cl = []
      · rw [hcl] at hx2
        have := rr_empty_client hw1 K
        rw [show (g, p).2 = p from rfl, this] at hx2; cases hx2
      · obtain ⟨t, ht, e1, e2⟩ := (hmem g p).1 ⟨hm, hw1⟩
        exact .inr ⟨hcl, t, ht, by rw [e1]; exact hx1, by rw [cov_parts cl hcl, e2]; exact hx2⟩
  · rintro (⟨j, hj, hx⟩ | ⟨hcl, t, ht, hx1, hx2⟩)
    · obtain ⟨ru, hm, h1, h2, h3⟩ := (h.tree _ wrt).1 hx
      refine ⟨ru, hm, Bool.and_eq_true_iff.2 ⟨h3, ?_⟩⟩
      rw [rr_none _ _ _ (hasW_false h1), List.isPrefixOf_iff_prefix, h2]
      exact List.take_prefix _ _
    · obtain ⟨hm, _⟩ := (hmem t.g t.pre).2 ⟨t, ht, rfl, rfl⟩
      refine ⟨(t.g, t.pre), hm, Bool.and_eq_true_iff.2 ⟨hx1, ?_⟩⟩
      rw [cov_parts cl hcl] at hx2
      exact hx2

theorem zzAllows_any {B r N : Nat} {rs : List (Nat × ByteArray)} {w : World} {v : Value} {K : List UInt8} (h : Holds B r rs N w) (hN : N ≤ 1048576) (hrs : rs.length ≤ 1048576) (hps : ∀ ru ∈ rs, ru.2.size < 1048576)
    (hkv : KeyV v K w) (hKl : K.length ≤ 1048576) (cl : ByteArray) (wrt : Bool) :
    Calls Tryd.prog 10 #[.pointer (some ⟨r, 0, none⟩), .string cl, .bool wrt, v] w fun e w' => e = .returned (.bool (wants rs cl.data.toList K wrt)) ∧ Below w.heap.size w w' := by
  obtain ⟨T, ts, VT, rfl, h2, h3, h4⟩ := h
  have hts := h4.short
  have ca := allows_any h2 h4.zero hN h3 (fun t ht => by
    have h1 : (t.g, t.pre) ∈ rs.filter (fun ru => hasW ru.2) := by rw [← h4.tmpl]; exact List.mem_map.2 ⟨t, ht, rfl⟩
    have h5 := hps _ (List.mem_filter.1 h1).1
    have h6 : t.pre.size < 1048576 := h5
    rw [parts_len]
    have := Lib.countB_le ⟨#[123, 99, 108, 105, 101, 110, 116, 125]⟩ (by decide) _ t.pre (Nat.le_refl _)
    omega) (by omega) hkv hKl cl wrt (wants rs cl.data.toList K wrt) (h4.meets cl.data.toList K wrt)
  generalize wants rs cl.data.toList K wrt = R at ca ⊢
  clear h2 h3 h4 hkv hps
  go_enter Tryd.func10, Tryd.ntmps10
  go_wp2_with (go_at_call 18; refine ca.mono ?_; rintro e w2 ⟨rfl, hb⟩)
  go_ret
  exact ⟨rfl, hb⟩
end Go.Proofs.Qxb6604794aDoor
