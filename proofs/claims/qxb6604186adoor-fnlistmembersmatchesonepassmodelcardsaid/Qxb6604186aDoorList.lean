/-
  listMembers.
-/
import Derived.Test.Qxb6604186aDoorCopy
import Derived.Test.Qxb6604186aDoorLib
namespace Go.Proofs.Qxb6604186aDoor
open Go.RowKit

/-- strings as cells -/
def sv (M : List (List UInt8)) : List Value := M.map fun m => .string ⟨m.toArray⟩
/-- the slice 'v' is the call's own and holds the strings M -/
def OwnS (w : World) (B : Nat) (v : Value) (M : List (List UInt8)) : Prop := w.ownsRow B 9 1 v M.length (sv M)

theorem OwnS.below {w w' : World} {B : Nat} {v : Value} {M : List (List UInt8)} (h : OwnS w B v M) (hb : Below w.heap.size w w') : OwnS w' B v M := by
  refine World.ownsRow.kept (row := none) h ⟨hb.os, hb.tape, hb.output, hb.size, fun k hk _ => hb.block k hk⟩ ?_
  cases v.ownBlock with
  | none => exact .inl rfl
  | some b => exact .inr (by simp)

theorem OwnS.nil (w : World) (B : Nat) : OwnS w B (.slice none 0 0) [] := World.ownsRow_nil _ _ _ _

/-- the members of all lines -/
def mem (ls : List ByteArray) : List (List UInt8) := (ls.map fun s => lm s.data.toList).flatten
theorem mem_take {ls : List ByteArray} {k : Nat} (h : k < ls.length) : mem (ls.take (k + 1)) = mem (ls.take k) ++ lm (ls.getD k ⟨#[]⟩).data.toList := by
  unfold mem
  rw [List.take_succ_eq_append_getElem h, List.getD_eq_getElem?_getD, List.getElem?_eq_getElem h, List.map_append, List.flatten_append]
  simp only [List.map_cons, List.map_nil, List.flatten_cons, List.flatten_nil, List.append_nil, Option.getD_some]
theorem mem_len : ∀ ls : List ByteArray, (mem ls).length ≤ tot ls
  | [] => by simp [mem, tot]
  | s :: r => by
    have ih := mem_len r
    have h1 := lm_len s.data.toList
    have e1 : mem (s :: r) = lm s.data.toList ++ mem r := by simp [mem]
    have e2 : tot (s :: r) = s.size + tot r := by simp [tot]
    have e3 : s.data.toList.length = s.size := by simp
    rw [e1, e2, List.length_append]; omega
theorem tot_split (ls : List ByteArray) (k : Nat) : tot ls = tot (ls.take k) + tot (ls.drop k) := by
  unfold tot
  rw [← List.sum_append, ← List.map_append, List.take_append_drop]

theorem part_len {ls : List ByteArray} {k : Nat} {acc rest : List (List UInt8)} (h : mem (ls.take k) = acc ++ rest) (ht : tot ls ≤ 1048576) : acc.length ≤ 1048576 := by
  have h1 := mem_len (ls.take k)
  have h2 := tot_split ls k
  rw [h, List.length_append] at h1
  omega

theorem sv_snoc (M : List (List UInt8)) (m : List UInt8) : sv (M ++ [m]) = sv M ++ [.string ⟨m.toArray⟩] := by simp [sv]

theorem toList_ne {m : List UInt8} (h : m.isEmpty = false) : keep m = [m] := by unfold keep; rw [h]; rfl
theorem toList_e {m : List UInt8} (h : m.isEmpty = true) : keep m = [] := by unfold keep; rw [h]; rfl

/-- the length of a string value -/
def strLen : Value → Nat
  | .string s => s.size
  | _ => 0

theorem size_of {ls : List ByteArray} {k : Nat} (h : k < ls.length) : (ls.getD k ⟨#[]⟩).size ≤ tot ls := by
  have h1 := tot_take h
  have h2 := tot_split ls (k + 1)
  omega

set_option maxHeartbeats 1000000 in
theorem list_any (a : Option Addr) (n c : Nat) (ls : List ByteArray) (w : World) (hn : n ≤ 65536) (ht : tot ls ≤ 1048576) (h : Strs a n ls w) :
    Calls Tryd.prog 10 #[.slice a n c] w fun e w' => ∃ v, e = .returned v ∧ OwnS w' w.heap.size v (mem ls) ∧ Below w.heap.size w w' := by
  obtain ⟨i0, hi, hz0, hz1, hz2⟩ := info_parts Tryd.info9
  go_enter Tryd.func10, Tryd.ntmps10
  go_wp2
  go_loopw [3, 9] (fun v i wr => ∃ k : Nat, k ≤ n ∧ i = .int .i64 k ∧ OwnS wr w.heap.size v (mem (ls.take k)) ∧ Below w.heap.size w wr) (fun _ i _ => n - (RowKit.intOf i).toNat)
  case atStart => exact ⟨0, Nat.zero_le _, rfl, OwnS.nil _ _, Below.refl _ _⟩
  case round =>
    obtain ⟨k, hk, rfl, hown, hb⟩ := hrel
    by_cases hlt : k < n
    · obtain ⟨b, off, ha, hbb, hcc⟩ := h.at_ (by omega)
      subst ha
      have hck : wr.cell? ⟨b, off + k, none⟩ = some (.string (ls.getD k ⟨#[]⟩)) := (hb.cell (p := ⟨b, off + k, none⟩) hbb).trans (hcc k hlt)
      have hki : (k : Int) < (n : Int) := by omega
      have HM : Hid (mem (ls.take (k + 1)) = mem (ls.take k) ++ lm (ls.getD k ⟨#[]⟩).data.toList) := mem_take (by rw [h.len]; exact hlt)
      have hsz : (ls.getD k ⟨#[]⟩).size ≤ 1048576 := Nat.le_trans (size_of (by rw [h.len]; exact hlt)) ht
      generalize ls.getD k ⟨#[]⟩ = s at hck HM hsz
      clear hcc
      go_wp2
      go_loopw [3, 5, 6] (fun v t _ wi => ∃ (acc : List (List UInt8)) (tb : ByteArray), t = .string tb ∧ tb.size ≤ 1048576 ∧ Hid (mem (ls.take (k + 1)) = acc ++ lm tb.data.toList) ∧ OwnS wi w.heap.size v acc ∧ Below w.heap.size w wi) (fun _ t _ _ => strLen t)
      case atStart => exact ⟨mem (ls.take k), s, rfl, hsz, HM.out, hown, hb⟩
      case round =>
        obtain ⟨acc, tb, rfl, htb, HA, hown2, hb2⟩ := hrel
        by_cases hne : tb.data.toList = []
        · have hie : tb.toList.isEmpty = true := by rw [ByteArray.toList_eq, hne]; rfl
          have HF : Hid (mem (ls.take (k + 1)) = acc) := by
            show _ = _
            rw [HA.out, hne, lm_nil, List.append_nil]
          clear hne
          go_wp2
          exact ⟨⟨k + 1, by omega, by go_num, by rw [HF.out]; exact hown2, hb2⟩, by simp [RowKit.intOf]; omega⟩
        · have hie : tb.toList.isEmpty = false := by rw [ByteArray.toList_eq, List.isEmpty_eq_false_iff]; exact hne
          have hl : tb.data.toList.length = tb.size := by simp
          have hcl := cutM_len _ tb.data.toList false (Nat.le_refl _)
          have hc2 := hcl.2.2 hne
          have HA2 : Hid (mem (ls.take (k + 1)) = (acc ++ keep (trim (cutM false tb.data.toList).1)) ++ lm (cutM false tb.data.toList).2) := by
            show _ = _
            rw [HA.out, lm_cons hne, List.append_assoc]
          have cc := fun w => cut_any tb w (by omega)
          have hacc := part_len HA.out ht
          clear HA hne
          generalize (cutM false tb.data.toList).1 = A at *
          generalize (cutM false tb.data.toList).2 = T at *
          have hT : (⟨T.toArray⟩ : ByteArray).size = T.length := rfl
          have cl := fun w => libTrim ⟨A.toArray⟩ w (by show A.toArray.size ≤ _; rw [List.size_toArray]; omega)
          go_wp2_with fail
          refine (cc _).mono ?_
          rintro e w2 ⟨rfl, q, rfl⟩
          go_wp2_with fail
          refine (cl _).mono ?_
          rintro e w3 ⟨rfl, hb3⟩
          have hb4 : Below wr.heap.size wr w3 := (below_drewN (Below.refl _ _) q).trans hb3
          have hown3 := hown2.below hb4
          have hb5 : Below w.heap.size w w3 := hb2.trans (hb4.mono hb2.size)
          have hws : w.heap.size ≤ w3.heap.size := hb5.size
          cases hte : (trim A).isEmpty
          · have HK : Hid (keep (trim A) = [trim A]) := toList_ne hte
            generalize trim A = m at *
            go_wp2_with (at_builtin; refine wpList_append_own _ rfl _ _ 22 rfl w.heap.size 9 i0 (.string ⟨#[]⟩) 1 16 Tryd.underlying22 hi hz0 hz1 hz2 rfl (by decide) _ _ _ rfl (hown3.alloc _) ⟨w3.heap.size, 0, none⟩ 1 1 [.string ⟨m.toArray⟩] rfl rfl ?c1 ?c2 ?c3 ?c4 ?c5 ?_)
            case c1 => intro j u hj; match j, hj with | 0, hj => simp at hj; subst hj; simp [Addr.add]
            case c2 => intro u hu; simp at hu; subst hu; rfl
            case c3 => unfold maxLen; omega
            case c4 => omega
            case c5 => simp; omega
            · intro v' w5 hown5 hgr _
              go_wp2
              refine ⟨⟨acc ++ [m], ⟨T.toArray⟩, rfl, by rw [hT]; omega, by show _ = _; rw [HA2.out, HK.out], ?_, (hb5.alloc hws _).grown hgr (by simp; omega) (fun j hj => (hown3.lt j hj).1)⟩, by show T.toArray.size < tb.size; rw [List.size_toArray]; omega⟩
              unfold OwnS
              rw [sv_snoc, List.length_append]
              exact hown5
          · have HK : Hid (keep (trim A) = []) := toList_e hte
            go_wp2
            exact ⟨⟨acc, ⟨T.toArray⟩, rfl, by rw [hT]; omega, by show _ = _; rw [HA2.out, HK.out, List.append_nil], hown3, hb5⟩, by show T.toArray.size < tb.size; rw [List.size_toArray]; omega⟩
    · have hf : ls.take k = ls := List.take_of_length_le (by rw [h.len]; omega)
      rw [hf] at hown
      clear hf
      go_wp2
      go_ret
      exact ⟨_, rfl, hown, hb⟩
end Go.Proofs.Qxb6604186aDoor
