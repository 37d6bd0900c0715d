/- The buffer with its bounds: new, cut, its length. -/
import Derived.Test.YtgjbafongiocbaaDoorJ
namespace Go.Proofs.YtgjbafongiocbaaDoor
open Go.RowKit

/-- Nothing below base has turned, and no block but those of buffers and pages (their structs). -/
structure Kept (base : Nat) (w w' : World) : Prop where
  below : Below base w w'
  other : ∀ (k : Nat) (t : TypeId) (cs : Array Value), Blk w k t cs → t = 26 → Blk w' k t cs

theorem pb_new (w : World) (page : Nat) (h1 : 0 < page) (h2 : page ≤ 1000) :
    Calls Tryd.prog 11 #[.int .i64 page] w fun e w' => ∃ B, e = .returned (.pointer (some ⟨B, 0, none⟩)) ∧ PB w' w.heap.size B 72000 [] ∧ w.grownBy w' none := by
  refine (new_any w page h1 h2).mono ?_
  rintro e w' ⟨B, g, d, pa, pc, rfl, hb, hg⟩
  exact ⟨B, rfl, ⟨pa, pc, [], ⟨g, d, page, []⟩, 2 * page, hb, by simp, by simp [bytesOf], by omega, by omega, .inl rfl⟩, hg⟩

theorem PB.grown {w w' : World} {base B M : Nat} {bs : List Value} (h : PB w base B M bs) (hg : w.grownBy w' none) : PB w' base B M bs := by
  obtain ⟨pa, pc, ps, l, next, hb, r⟩ := h
  exact ⟨pa, pc, ps, l, next, hb.grown hg, r⟩
theorem PB.lt {w : World} {base B M : Nat} {bs : List Value} (h : PB w base B M bs) : base ≤ B ∧ B < w.heap.size := by
  obtain ⟨pa, pc, ps, l, next, hb, r⟩ := h
  exact ⟨hb.ge, hb.blk.lt⟩

theorem pb_len {w : World} {base B M : Nat} {bs : List Value} (h : PB w base B M bs) :
    Calls Tryd.prog 18 #[.pointer (some ⟨B, 0, none⟩)] w fun e w' => e = .returned (.int .i64 bs.length) ∧ w = w' := by
  obtain ⟨pa, pc, ps, l, next, hb, _, rfl, _⟩ := h
  exact len_any hb

def CutDone (base B M : Nat) (bs : List Value) (w : World) (e : Ending) (w' : World) : Prop :=
  e = .returned (.tuple #[]) ∧ PB w' base B M bs ∧ Kept base w w'

theorem pb_cut {w : World} {base B M : Nat} {bs : List Value} (h : PB w base B M bs) (q : Nat) (hq : q < bs.length) (hl : bs.length ≤ 1000000) :
    Calls Tryd.prog 12 #[.pointer (some ⟨B, 0, none⟩), .int .i64 q] w (CutDone base B (2 * M) (bs.take q) w) := by
  obtain ⟨pa, pc, ps, l, next, hb, hf, rfl, h0, hM, hn⟩ := h
  have hfl := full_len hb hf
  refine (cut_any hb q hq (by omega) (by simp; omega)).mono ?_
  rintro e w' ⟨i, s, p, rfl, hp, hqs, hs, hb', ho⟩
  have hi : i < ps.length + 1 := by have := (List.getElem?_eq_some_iff.1 hp).1; simpa using this
  have hti : (ps ++ [l]).take i = ps.take i := by rw [List.take_append_of_le_length (by omega)]
  have hbc := bytesOf_cut (ps ++ [l]) i s p hp hs
  rw [hqs] at hbc
  rw [hti] at hb' hbc
  refine ⟨rfl, ⟨pa, pc, ps.take i, _, next, hb', fun x hx => hf x (List.mem_of_mem_take hx), hbc, h0, by omega, .inr (by omega)⟩, ?_, ?_⟩
  · refine ho.below (Nat.le_trans hb.ge (Nat.le_of_lt hb.blk.lt)) ?_
    rintro k (rfl | rfl)
    · exact hb.ge
    · exact (hb.each p (List.mem_of_getElem? hp)).g_ge
  · intro k t cs hk ht
    refine hk.only ho ?_
    rintro (h1 | h1)
    · exact hk.ne_ hb.blk (by rw [ht]; decide) h1
    · exact hk.ne_ (hb.each p (List.mem_of_getElem? hp)).blk (by rw [ht]; decide) h1
end Go.Proofs.YtgjbafongiocbaaDoor
