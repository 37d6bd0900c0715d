/- A new buffer of pages. -/
import Derived.Test.YtgjbafongiocbaaDoorH
namespace Go.Proofs.YtgjbafongiocbaaDoor
open Go.RowKit

theorem run_make_rowN {P : Program} (t e : TypeId) (i : TypeInfo) (z : Value) (ht : P.underlying t = some (.slice e)) (hi : P.info? e = some i) (hz : i.zero = some z)
    (kl kc : IntKind) (n c : Nat) (hnc : n ≤ c) (hbytes : i.bytes * c ≤ 281474976710656) (h63 : c ≤ 9223372036854775807) (w : World) :
    (Instr.makeSlice t (.int kl (n : Int)) (.int kc (c : Int))).run P w = .ok (.slice (some ⟨w.heap.size, 0, none⟩) n c) (w.alloc (.cells (madeCells z.cells (c * i.size)) e)) := by
  have hb : (i.bytes : Int) * (c : Int) ≤ 281474976710656 := by
    have h : ((i.bytes * c : Nat) : Int) ≤ 281474976710656 := by omega
    rwa [Int.natCast_mul] at h
  have hr := run_make (P := P) w t e i z ht hi hz kl kc n c (by omega) (by omega) hb (by omega)
  simp only [Int.toNat_natCast] at hr
  exact hr

/-- The array of a new page. -/
def zeros (c : Nat) : Array Value := madeCells (Value.int .u8 0).cells c

theorem make_bytes (n c : Nat) (hnc : n ≤ c) (hc : c ≤ 1099511627776) (w : World) :
    (Instr.makeSlice 24 (.int .i64 (n : Int)) (.int .i64 (c : Int))).run Tryd.prog w = .ok (.slice (some ⟨w.heap.size, 0, none⟩) n c) (w.alloc (.cells (zeros c) 5)) := by
  obtain ⟨i0, hi0, hz0, hz1, hz2⟩ := info_parts info5
  have h := run_make_rowN (P := Tryd.prog) 24 5 i0 _ Tryd.underlying24 hi0 hz0 .i64 .i64 n c hnc (by rw [hz2]; omega) (by omega) w
  rw [hz1, Nat.mul_one] at h
  exact h

theorem info53 : (Tryd.prog.info? 53).map (fun i => (i.zero, i.size, i.bytes)) = some (some (.pointer none), 1, 8) := by kernel_rfl

theorem new3 (w : World) (a b c : Obj) : (((w.alloc a).alloc b).alloc c).drew.heap[w.heap.size + 2]? = some c := by
  have h := heap_alloc_new ((w.alloc a).alloc b) c
  rw [show ((w.alloc a).alloc b).heap.size = w.heap.size + 2 from by simp] at h
  exact h

theorem own_set {w : World} {base : Nat} {e : TypeId} {size n : Nat} {v : Value} {xs : List Value} (h : w.ownsRow base e size v n xs) {a : Addr} (ha : ∀ g, v.ownBlock = some g → g ≠ a.block) (u : Value) : (w.setCell a u).ownsRow base e size v n xs := by
  refine ⟨h.1, ?_⟩
  rcases h.2 with h2 | ⟨g, cap, cur, rfl, hg, hh, r⟩
  · exact .inl h2
  · exact .inr ⟨g, cap, cur, rfl, hg, by rw [Below.heap_setCell _ _ _ _ (ha g rfl)]; exact hh, r⟩

theorem zeros_size (c : Nat) : (zeros c).size = c := size_madeCells _ _

theorem new_end {w w1 w2 : World} {page gg cap : Nat} (hg1 : w.grownBy w1 none) (hb1 : Blk w1 w.heap.size 52 #[.slice none 0 0, .int .i64 0, .int .i64 0]) (h1 : 0 < page) (h2 : page ≤ 1000)
    (hown2 : w2.ownsRow w.heap.size 53 1 (.slice (some ⟨gg, 0, none⟩) (0 + 1) cap) (0 + 1) ([] ++ [.pointer (some ⟨w1.heap.size + 1, 0, none⟩)]))
    (hgrow2 : (((w1.alloc (.cells (zeros page) 5)).alloc (.cells #[.slice (some ⟨w1.heap.size, 0, none⟩) 0 page] 55)).alloc (.cells #[.pointer (some ⟨w1.heap.size + 1, 0, none⟩)] 53)).drew.grownBy w2 (Value.slice none 0 0).ownBlock)
    (hat2 : (Value.slice none 0 0).ownBlock = some gg ∨ gg = w1.heap.size + 3) :
    Buf ((w2.setCell ⟨w.heap.size, 0, none⟩ (.slice (some ⟨gg, 0, none⟩) 1 cap)).setCell ⟨w.heap.size, 2, none⟩ (.int .i64 ((page : Int) * 2))) w.heap.size w.heap.size gg cap [⟨w1.heap.size + 1, w1.heap.size, page, []⟩] (2 * page) ∧
      w.grownBy ((w2.setCell ⟨w.heap.size, 0, none⟩ (.slice (some ⟨gg, 0, none⟩) 1 cap)).setCell ⟨w.heap.size, 2, none⟩ (.int .i64 ((page : Int) * 2))) none := by
  have hlt1 := hb1.lt
  have hsz := hg1.size
  have hb2 := Blk.grown ((((hb1.alloc _).alloc _).alloc _).drew) hgrow2 (by simp [Value.ownBlock])
  have hd : Blk w2 w1.heap.size 5 (zeros page) := Blk.grown (((((Blk.new w1 5 (zeros page)).alloc _).alloc _).drew)) hgrow2 (by simp [Value.ownBlock])
  have hp : Blk w2 (w1.heap.size + 1) 55 #[.slice (some ⟨w1.heap.size, 0, none⟩) 0 page] := by
    have := Blk.new (w1.alloc (.cells (zeros page) 5)) 55 #[.slice (some ⟨w1.heap.size, 0, none⟩) 0 page]
    rw [show (w1.alloc (.cells (zeros page) 5)).heap.size = w1.heap.size + 1 from by simp] at this
    exact Blk.grown ((this.alloc _).drew) hgrow2 (by simp [Value.ownBlock])
  have hgg : gg = w1.heap.size + 3 := by
    rcases hat2 with h | h
    · simp [Value.ownBlock] at h
    · exact h
  have hs2 : w1.heap.size + 3 ≤ w2.heap.size := by have := hgrow2.size; simp at this; omega
  have e2 : ((2 * page : Nat) : Int) = (page : Int) * 2 := by omega
  refine ⟨⟨?_, ?_, ?_, by simp, by simp, Nat.le_refl _⟩, ?_⟩
  · have := (hb2.set_ 0 (.slice (some ⟨gg, 0, none⟩) 1 cap)).set_ 2 (.int .i64 ((page : Int) * 2))
    simpa [bytesOf, e2] using this
  · have hne : ∀ (k : Nat) (g : Nat), (Value.slice (some ⟨gg, 0, none⟩) 1 cap).ownBlock = some g → g ≠ (⟨w.heap.size, k, none⟩ : Addr).block := by
      intro k g hg
      simp only [Value.ownBlock, Option.some.injEq] at hg
      show g ≠ w.heap.size
      omega
    exact own_set (own_set hown2 (hne 0) _) (hne 2) _
  · intro p hpm
    simp only [List.mem_singleton] at hpm
    subst hpm
    refine PgOk.mk' (cur := (zeros page).toList) (((hp.far (p := ⟨w.heap.size, 0, none⟩) (by show w1.heap.size + 1 ≠ w.heap.size; omega) _).far (p := ⟨w.heap.size, 2, none⟩) (by show w1.heap.size + 1 ≠ w.heap.size; omega) _))
      (((hd.far (p := ⟨w.heap.size, 0, none⟩) (by show w1.heap.size ≠ w.heap.size; omega) _).far (p := ⟨w.heap.size, 2, none⟩) (by show w1.heap.size ≠ w.heap.size; omega) _)) (by simp [zeros_size]) (by simp) (Nat.zero_le _) (by show page ≤ maxLen; unfold maxLen; omega) h1 (by show w.heap.size ≤ w1.heap.size + 1; omega) (by show w.heap.size ≤ w1.heap.size; omega)
  · have h0 : Only (fun _ => False) w w2 := ((((Only.of_grown hg1 _).alloc _).alloc _).alloc _).drew.grown hgrow2 (by simp [Value.ownBlock])
    exact ((h0.setCell (.inr (Nat.le_refl _)) _).setCell (.inr (Nat.le_refl _)) _).to_grown (fun _ h => h.elim)

def NewBuf (page : Nat) (w : World) (e : Ending) (w' : World) : Prop :=
  ∃ B g d pa pc, e = .returned (.pointer (some ⟨B, 0, none⟩)) ∧ Buf w' w.heap.size B pa pc [⟨g, d, page, []⟩] (2 * page) ∧ w.grownBy w' none

theorem new_any (w : World) (page : Nat) (h1 : 0 < page) (h2 : page ≤ 1000) :
    Calls Tryd.prog 11 #[.int .i64 page] w (NewBuf page w) := by
  have hmk := fun W => make_bytes 0 page (Nat.zero_le _) (by omega) W
  simp only [Int.natCast_zero] at hmk
  obtain ⟨i0, hi0, hz0, hz1, hz2⟩ := info_parts info53
  go_enter Tryd.func11, Tryd.ntmps11
  go_wp2_with fail
  refine forget (fun w' => w.grownBy w' none ∧ Blk w' w.heap.size 52 #[.slice none 0 0, .int .i64 0, .int .i64 0]) ⟨World.grownBy_alloc w _ none, Blk.new w 52 _⟩ ?_
  rintro w1 ⟨hg1, hb1⟩
  have hlt1 := hb1.lt
  have hc1 : w1.cell? ⟨w.heap.size, 0, none⟩ = some (.slice none 0 0) := hb1.cell 0
  have hne1 := World.new_ne w1 _ hc1
  have hn3 : ∀ a b c : Obj, (((w1.alloc a).alloc b).alloc c).drew.heap[w1.heap.size + 2]? = some c := fun a b c => new3 w1 a b c
  have hk3 : ∀ a b c : Obj, (((w1.alloc a).alloc b).alloc c).cell? ⟨w.heap.size, 0, none⟩ = some (.slice none 0 0) := fun a b c => (((hb1.alloc a).alloc b).alloc c).cell 0
  have hf1 : w1.frozen? ⟨w.heap.size, 0, none⟩ = false := hb1.frozen 0
  go_region_law (refine step_append_lies _ (by rfl) _ _ _ (by rfl) w.heap.size 53 i0 _ 1 8 Tryd.underlying50 hi0 hz0 hz1 hz2 rfl (by omega) (.slice none 0 0) 0 [] (by rfl) (World.ownsRow_nil _ _ _ _) ⟨w1.heap.size + 2, 0, none⟩ 1 1 [.pointer (some ⟨w1.heap.size + 1, 0, none⟩)] (by rfl) (by rfl) (World.news_of_block (cs := #[.pointer (some ⟨w1.heap.size + 1, 0, none⟩)]) (t := 53) (fr := (0, 0)) (hn3 _ _ _)) (by simp [Value.oneCell']) (by omega) (by unfold maxLen; omega) (by omega) (by simp; omega) (w1.heap.size + 3) (by simp) ?_; intro gg cap w2 hown2 hgrow2 hat2 hlt2; have hb2 := Blk.grown ((((hb1.alloc _).alloc _).alloc _).drew) hgrow2 (by simp [Value.ownBlock]); have hc2 : w2.cell? ⟨w.heap.size, 0, none⟩ = some (.slice none 0 0) := hb2.cell 0; have hf2 := hb2.frozen 0)
  all_goals
    have HE := Lib.hid (new_end hg1 hb1 h1 h2 hown2 hgrow2 hat2)
    have hc22 : w2.cell? ⟨w.heap.size, 2, none⟩ = some (.int .i64 0) := hb2.cell 2
    have hf22 := hb2.frozen 2
    clear hown2 hgrow2 hat2 hg1 hk3 hn3 hmk hb1 hb2 hc1 hf1
    go_wp2
    go_ret
    exact ⟨_, _, _, _, _, rfl, HE.out⟩
end Go.Proofs.YtgjbafongiocbaaDoor
