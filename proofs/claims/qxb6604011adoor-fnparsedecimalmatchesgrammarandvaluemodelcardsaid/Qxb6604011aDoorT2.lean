import Derived.Test.Qxb6604011aDoorT1
import Derived.Laws.RangeAny
import Derived.Laws.Runes
namespace Go.Proofs.Qxb6604011aDoor
open Go.RowKit

theorem valid_any (r : Int) (w : World) (hv : Utf8.valid r = true) :
    Calls Tryd.prog 48 #[.int .i32 r] w fun e w' => e = .returned (.bool true) ∧ w' = w := by
  have h : (0 ≤ r ∧ r < 55296) ∨ (57344 ≤ r ∧ r ≤ 1114111) := by simpa [Utf8.valid] using hv
  rcases h with ⟨a, b⟩ | ⟨a, b⟩
  · exact valid_lo r w a b
  · exact valid_hi r w (by omega) b

theorem rune_high (r : Int) (w : World) (h1 : 128 ≤ r) (hv : Utf8.valid r = true) :
    Calls Tryd.prog 34 #[.string ⟨#[101, 69]⟩, .int .i32 r] w fun e w' => e = .returned (.int .i64 (-1)) ∧ Below w.heap.size w w' := by
  by_cases e : r = 65533
  · subst e; exact rune_err w
  · obtain ⟨f1, f2, f3⟩ := encode_facts r hv h1
    exact rune_walk r w (Utf8.encode r) h1 (beq_eq_false_iff_ne.2 e) (valid_any r w hv) rfl (by omega) f3

theorem decode_facts (s : ByteArray) (pos : Nat) (h : pos < s.size) (ha : 128 ≤ (s[pos]'h).toNat) :
    Utf8.valid ((Utf8.decode s pos).1 : Int) = true ∧ pos + (Utf8.decode s pos).2 ≤ s.size ∧ ∀ k, 1 ≤ k → k < (Utf8.decode s pos).2 → 128 ≤ (s.get! (pos + k)).toNat := by
  have hn : ¬ (s[pos]'h).toNat < 128 := by omega
  have hb0 : (s[pos]'h).toNat < 256 := UInt8.toNat_lt _
  simp only [Utf8.decode, get_at s pos h, hn, if_false]
  repeat' split
  all_goals simp_all [Utf8.runeError, Utf8.valid]
  all_goals first
    | (refine ⟨by omega, by omega, fun k k1 k2 => ?_⟩
       obtain rfl | rfl | rfl : k = 1 ∨ k = 2 ∨ k = 3 := by omega
       all_goals omega)
    | (refine ⟨by omega, fun k k1 k2 => ?_⟩
       obtain rfl | rfl | rfl : k = 1 ∨ k = 2 ∨ k = 3 := by omega
       all_goals omega)
    | (refine ⟨by omega, fun k k1 k2 => ?_⟩
       omega)
    | omega

section
variable {P : Program}
theorem next_at (wx : World) (k : Nat) (s : ByteArray) (pos : Nat) (ty : TypeId) (hit : wx.heap[k]? = some (.stringIter s pos)) (h : pos < s.size) :
    (Instr.next (.pointer (some ⟨k, 0, none⟩)) true ty).run P wx =
      .ok (.tuple #[.bool true, .int .i64 pos, .int .i32 (Utf8.decode s pos).1]) { wx with heap := wx.heap.setIfInBounds k (.stringIter s (pos + (Utf8.decode s pos).2)) } := by
  simp only [Instr.next, getObj, setObj, Sem.run_bind, Sem.run, hit, Result.andThen, h, if_true]
  simp [goInt]
theorem next_stop (wx : World) (k : Nat) (s : ByteArray) (pos : Nat) (ty : TypeId) (hit : wx.heap[k]? = some (.stringIter s pos)) (h : ¬ pos < s.size) :
    (Instr.next (.pointer (some ⟨k, 0, none⟩)) true ty).run P wx = .ok (.tuple #[.bool false]) wx := by
  simp [Instr.next, getObj, Sem.run, hit, h]
end

/-- The world in which the iterator k stands at pos; only blocks from k on are touched. -/
structure At (w : World) (s : ByteArray) (pos : Nat) (wx : World) : Prop where
  below : Below w.heap.size w wx
  here : wx.heap[w.heap.size]? = some (.stringIter s pos)

theorem At.start (w : World) (s : ByteArray) : At w s 0 (w.iter s 0) := ⟨(Below.refl _ _).alloc (Nat.le_refl _) _, World.iter_heap ..⟩
theorem At.move {w wx : World} {s : ByteArray} {pos : Nat} (h : At w s pos wx) (q : Nat) :
    At w s q { wx with heap := wx.heap.setIfInBounds w.heap.size (.stringIter s q) } := by
  have hlt : w.heap.size < wx.heap.size := by
    rcases Nat.lt_or_ge w.heap.size wx.heap.size with h1 | h1
    · exact h1
    · have := h.here; rw [Array.getElem?_eq_none h1] at this; cases this
  refine ⟨⟨h.below.os, h.below.tape, h.below.output, ?_, fun k hk => ?_⟩, ?_⟩
  · simpa using h.below.size
  · show (wx.heap.setIfInBounds _ _)[k]? = _
    rw [Array.getElem?_setIfInBounds_ne (by omega)]; exact h.below.block k hk
  · show (wx.heap.setIfInBounds _ _)[w.heap.size]? = _
    rw [Array.getElem?_setIfInBounds_self_of_lt hlt]
theorem At.lt {w wx : World} {s : ByteArray} {pos : Nat} (h : At w s pos wx) : w.heap.size < wx.heap.size := by
    rcases Nat.lt_or_ge w.heap.size wx.heap.size with h1 | h1
    · exact h1
    · have := h.here; rw [Array.getElem?_eq_none h1] at this; cases this
theorem At.call {w wx wy : World} {s : ByteArray} {pos : Nat} (h : At w s pos wx) (hb : Below wx.heap.size wx wy) : At w s pos wy :=
  ⟨h.below.trans (hb.mono h.below.size), by rw [hb.block _ h.lt]; exact h.here⟩
theorem At.next {w wx : World} {s : ByteArray} {pos : Nat} (h : At w s pos wx) (hl : pos < s.size) :
    ∃ wy, (∀ ty, (Instr.next (.pointer (some ⟨w.heap.size, 0, none⟩)) true ty).run Tryd.prog wx = .ok (.tuple #[.bool true, .int .i64 pos, .int .i32 (Utf8.decode s pos).1]) wy) ∧ At w s (pos + (Utf8.decode s pos).2) wy :=
  ⟨_, fun ty => next_at wx w.heap.size s pos ty h.here hl, h.move _⟩
end Go.Proofs.Qxb6604011aDoor
