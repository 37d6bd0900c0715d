/- Contracts of the small functions: copies and joins of bytes. -/
import Derived.Test.YtgjbafongiocbaaDoorA
namespace Go.Proofs.YtgjbafongiocbaaDoor
open Go.RowKit

theorem info5 : (Tryd.prog.info? 5).map (fun i => (i.zero, i.size, i.bytes)) = some (some (.int .u8 0), 1, 1) := by kernel_rfl

theorem grown_none_of_alloc {w w1 : World} {o : Obj} {row : Option Nat} (h : (w.alloc o).grownBy w1 row) (hr : row = some w.heap.size ∨ row = none) : w.grownBy w1 none := by
  refine ⟨h.os, h.tape, h.output, ?_, ?_⟩
  · have := h.size; simp at this; omega
  · intro k hk _
    rw [h.block k (by simp; omega) (by rcases hr with rfl | rfl <;> simp; omega)]
    exact Below.heap_alloc w _ k hk

theorem grown_trans {a b c : World} {row : Option Nat} (h : a.grownBy b none) (k : b.grownBy c row) (hr : ∀ g, row = some g → a.heap.size ≤ g) : a.grownBy c none :=
  ⟨k.os.trans h.os, k.tape.trans h.tape, k.output.trans h.output, Nat.le_trans h.size k.size, fun i hi _ =>
    (k.block i (Nat.lt_of_lt_of_le hi h.size) (fun e => by have := hr i e.symm; omega)).trans (h.block i hi (by simp))⟩

theorem own_any (A : Option Addr) (n c : Nat) (xs : List Value) (w : World) (hr : Reads w w.heap.size 1 A n xs) (h1 : ∀ u ∈ xs, u.oneCell' = true) (hn : n ≤ 1099511627776) :
    Calls Tryd.prog 14 #[.slice A n c] w fun e w' => ∃ v, e = .returned v ∧ w'.ownsRow w.heap.size 5 1 v n xs ∧ w.grownBy w' none := by
  obtain ⟨i0, hi0, hz0, hz1, hz2⟩ := info_parts info5
  have hmx : n ≤ maxLen := by unfold maxLen; omega
  go_enter Tryd.func14, Tryd.ntmps14
  go_wp2_with (at_builtin; refine wpList_append_any _ rfl (.tmp 3) (.tmp 4) _ rfl w.heap.size 5 i0 _ 1 1 Tryd.underlying24 hi0 hz0 hz1 hz2 rfl (by omega) _ 0 [] rfl (World.ownsRow_made w #[] 0 (Nat.le_refl _) (Nat.zero_le _) rfl) w.heap.size A n c xs rfl (hr.alloc (Nat.le_refl _) _) h1 (by omega) (by omega) (by simp) ?_; intro v' w1 hown1 hgrow1 _)
  go_ret
  exact ⟨v', rfl, by simpa using hown1, grown_none_of_alloc hgrow1 (.inl rfl)⟩

/-- A slice of bytes among others: where it lies, how long it is, what it holds. -/
structure It where
  A : Option Addr
  n : Nat
  c : Nat
  xs : List Value
def It.val (i : It) : Value := .slice i.A i.n i.c
def flat (l : List It) : List Value := l.flatMap It.xs

theorem flat_snoc (l : List It) (k : Nat) (h : k < l.length) : flat (l.take (k + 1)) = flat (l.take k) ++ l[k].xs := by
  unfold flat
  rw [List.take_succ_eq_append_getElem h, List.flatMap_append]
  simp
theorem flat_take_le (l : List It) (k : Nat) : (flat (l.take k)).length ≤ (flat l).length := by
  unfold flat
  have h := congrArg (fun l => (l.flatMap It.xs).length) (List.take_append_drop k l)
  simp only [List.flatMap_append, List.length_append] at h
  omega

theorem join_any (L : Option Addr) (m c : Nat) (its : List It) (w : World) (hL : Reads w w.heap.size 1 L m (its.map It.val)) (hi : ∀ i ∈ its, Reads w w.heap.size 1 i.A i.n i.xs)
    (h1 : ∀ i ∈ its, ∀ u ∈ i.xs, u.oneCell' = true) (hm : m ≤ 1099511627776) (hn : (flat its).length ≤ 1099511627776) :
    Calls Tryd.prog 10 #[.slice L m c] w fun e w' => ∃ v, e = .returned v ∧ w'.ownsRow w.heap.size 5 1 v (flat its).length (flat its) ∧ w.grownBy w' none := by
  obtain ⟨i0, hi0, hz0, hz1, hz2⟩ := info_parts info5
  have hmx : 1099511627776 ≤ maxLen := by unfold maxLen; omega
  have hlen : its.length = m := by have := hL.1; simpa using this
  have HL := Lib.hid hlen
  clear hlen
  go_enter Tryd.func10, Tryd.ntmps10
  go_wp2_with fail
  go_loopw [3, 9] (fun v i wr => ∃ k : Nat, k ≤ m ∧ i = .int .i64 k ∧ wr.ownsRow w.heap.size 5 1 v (flat (its.take k)).length (flat (its.take k)) ∧ w.grownBy wr none) (fun _ i _ => m - (intOf i).toNat)
  case atStart => exact ⟨0, Nat.zero_le _, rfl, by simpa [flat] using World.ownsRow_made w #[] 0 (Nat.le_refl _) (Nat.zero_le _) rfl, World.grownBy_alloc w _ none⟩
  case round =>
    obtain ⟨k, hk, rfl, hown, hg⟩ := hrel
    by_cases hlt : k < m
    · obtain ⟨ad, u, rfl, hb, hu, hc⟩ := hL.at_ hlt
      have hkl : k < its.length := by have := HL.out; omega
      have hc1 : wr.cell? (ad.add k) = some (.slice its[k].A its[k].n its[k].c) := by
        rw [List.getElem?_map, List.getElem?_eq_getElem hkl] at hu
        injection hu with hu
        rw [hg.cell hc (by simp), ← hu]; rfl
      have hR : Reads wr wr.heap.size 1 its[k].A its[k].n its[k].xs := ((hi _ (List.getElem_mem hkl)).keep fun p hp => World.cell?_of_block (hg.block p.block hp (by simp))).more hg.size
      have h1' := h1 _ (List.getElem_mem hkl)
      have hs := flat_snoc its k hkl
      have hle := flat_take_le its (k + 1)
      have hn1 : its[k].n = its[k].xs.length := by have := hR.1; omega
      have HS := Lib.hid hs
      rw [HS.out, List.length_append] at hle
      have HN := Lib.hid hn1
      have hle2 : (flat (its.take k)).length + its[k].n ≤ 1099511627776 := by omega
      clear hs hu hn1 hle
      go_wp2_with (at_builtin; refine wpList_append_any _ rfl (.tmp 13) (.tmp 14) _ rfl w.heap.size 5 i0 _ 1 1 Tryd.underlying24 hi0 hz0 hz1 hz2 rfl (by omega) _ (flat (its.take k)).length (flat (its.take k)) rfl hown wr.heap.size its[k].A its[k].n its[k].c its[k].xs rfl hR h1' (by omega) (by omega) hg.size ?_; intro v' w1 hown1 hgrow1 _)
      go_roundw
      case rel => exact ⟨k + 1, by omega, by go_num, by rw [HS.out, List.length_append, ← HN.out]; exact hown1, grown_trans hg hgrow1 (fun g hgg => (hown.lt g hgg).1)⟩
      case measure => simp [intOf]; omega
    · go_wp2
      go_ret
      have hke : its.take k = its := List.take_of_length_le (by have := HL.out; omega)
      rw [hke] at hown
      exact ⟨_, rfl, hown, hg⟩
end Go.Proofs.YtgjbafongiocbaaDoor
