/- Contains and Split at the word "{client}". -/
import Derived.Test.Qxb6604794aDoorShelf
import Derived.Test.Qxb6604794aDoorTrie3
namespace Go.Proofs.Qxb6604794aDoor
open Go.RowKit Go.Shelf

/-- what the index functions read: MaxLen -/
def MaxL (w : World) : Prop := ∃ m : Int, w.cell? ⟨0, 0, none⟩ = some (.int .i64 m)

theorem contains_any (s : ByteArray) (w : World) (hm : MaxL w) (hs : s.size ≤ 1048576) :
    Calls Tryd.prog 24 #[.string s, .string ⟨#[123, 99, 108, 105, 101, 110, 116, 125]⟩] w fun e w' => e = .returned (.bool (Lib.contains s.data.toList word)) ∧ w' = w :=
  let ⟨m, hm⟩ := hm
  Any.strings_Contains { Tryd.laysM144 with } s ⟨#[123, 99, 108, 105, 101, 110, 116, 125]⟩ m w (by omega) hm

/-- the parts -/
def parts (s : ByteArray) : List ByteArray := Lib.splitB ⟨#[123, 99, 108, 105, 101, 110, 116, 125]⟩ 0 (Lib.countB s ⟨#[123, 99, 108, 105, 101, 110, 116, 125]⟩) s
theorem parts_len (s : ByteArray) : (parts s).length = Lib.countB s ⟨#[123, 99, 108, 105, 101, 110, 116, 125]⟩ + 1 :=
  Lib.splitB_all _ (by decide) 0 _ s rfl

theorem split_any (s : ByteArray) (w : World) (hm : MaxL w) (hs : s.size ≤ 1048576) :
    Calls Tryd.prog 25 #[.string s, .string ⟨#[123, 99, 108, 105, 101, 110, 116, 125]⟩] w fun e w' => e = .returned (.slice (some ⟨w.heap.size, 0, none⟩) (parts s).length (parts s).length) ∧ w' = w.alloc (.cells ((parts s).map Value.string).toArray 9) := by
  obtain ⟨m, hm⟩ := hm
  rw [parts_len]
  exact Any.strings_Split { Tryd.laysM146 with } Tryd.laysM146.i9 s ⟨#[123, 99, 108, 105, 101, 110, 116, 125]⟩ m w (by omega) hm (by decide)
end Go.Proofs.Qxb6604794aDoor
