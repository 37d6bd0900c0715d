/- All bytes of the buffer; a reader from a place on. -/
import Derived.Test.YtgjbafongiocbaaDoorL
namespace Go.Proofs.YtgjbafongiocbaaDoor
open Go.RowKit

/-- The loop that collects: k pages are done. -/
def BS (w0 : World) (base g T : Nat) (ps : List Pg) (a i : Value) (wr : World) : Prop :=
  ∃ (k S : Nat) (cur : List Value), a = .int .i64 S ∧ i = .int .i64 k ∧ k ≤ ps.length ∧ S = (bytesOf (ps.take k)).length ∧ Blk wr g 5 cur.toArray ∧ cur.length = T ∧ cur.take S = bytesOf (ps.take k) ∧ base ≤ g ∧ w0.heap.size ≤ g ∧ Only (fun _ => False) w0 wr

def GotAll (w0 : World) (bs : List Value) (e : Ending) (w' : World) : Prop := ∃ v, e = .returned v ∧ w'.ownsRow w0.heap.size 5 1 v bs.length bs ∧ Only (fun _ => False) w0 w'

set_option maxHeartbeats 1000000 in
theorem bytes_any {w0 : World} {base B pa pc next : Nat} {ps : List Pg} (h : Buf w0 base B pa pc ps next) (hl : (bytesOf ps).length ≤ 1000000) (hu : ∀ u ∈ bytesOf ps, u.oneCell' = true) :
    Calls Tryd.prog 17 #[.pointer (some ⟨B, 0, none⟩)] w0 (GotAll w0 (bytesOf ps)) := by
  obtain ⟨c0, c1, c2⟩ := h.cell
  obtain ⟨T, hT⟩ : ∃ T, T = (bytesOf ps).length := ⟨_, rfl⟩
  rw [← hT] at c1 hl
  have HT := Lib.hid hT
  have hmk := fun W => make_bytes T T (Nat.le_refl _) (by omega) W
  have HU := Lib.hid hu
  have hll := h.len_le
  have hBl := h.blk.lt
  have hge := h.ge
  clear hT hu
  go_enter Tryd.func17, Tryd.ntmps17
  go_wp2_with fail
  go_loopw [4, 5] (fun a i wr => BS w0 base w0.heap.size T ps a i wr) (fun _ i _ => ps.length - (intOf i).toNat)
  case atStart => exact ⟨0, 0, (zeros T).toList, rfl, rfl, Nat.zero_le _, by simp [bytesOf], by simpa [Blk] using Blk.new w0 5 (zeros T), by simp [zeros_size], by simp [bytesOf], by omega, Nat.le_refl _, (Only.refl _ w0).alloc _⟩
  case round =>
    obtain ⟨k, S, cur, rfl, rfl, hk, hS, hcur, hcl, hct, hbg, _, ho⟩ := hrel
    have hb := h.only ho id id (fun _ _ => ⟨id, id⟩)
    obtain ⟨c0', c1', c2'⟩ := hb.cell
    have HS := Lib.hid hS
    have HCL := Lib.hid hcl
    have HCT := Lib.hid hct
    clear hS hcl hct c0 c1 c2
    by_cases hlt : k < ps.length
    · obtain ⟨p, hp⟩ : ∃ p, ps[k]? = some p := ⟨ps[k], List.getElem?_eq_getElem hlt⟩
      obtain ⟨d0, d1, d2, d3⟩ := hb.ptr hp
      have hpo := hb.each p (List.mem_of_getElem? hp)
      obtain ⟨cd, hcd, hcdl, hcdt⟩ := hpo.cur
      have hle := bytesOf_take_le ps (k + 1)
      have hsn := bytesOf_snoc ps k p hp
      rw [hsn, List.length_append, ← HS.out, ← HT.out] at hle
      obtain ⟨X, hX⟩ : ∃ X, X = p.xs.length := ⟨_, rfl⟩
      rw [← hX] at d1 d2 hle
      have HX := Lib.hid hX
      have HSN := Lib.hid hsn
      have HP := Lib.hid hp
      have hcap : p.cap ≤ 9223372036854775807 := by unfold maxLen at d3; omega
      have hpc : pc ≤ 9223372036854775807 := by have := hll.2; unfold maxLen at this; omega
      have hgd : w0.heap.size ≠ p.d := by have := (h.lt.2.2 p (List.mem_of_getElem? hp)).2; omega
      have HCD := Lib.hid hcdl
      have HCDT := Lib.hid hcdt
      clear hX hsn hp hcdl hcdt
      have hgB : w0.heap.size ≠ B := by omega
      have hgpa : w0.heap.size ≠ pa := by have := h.lt.2.1; omega
      have hgg : w0.heap.size ≠ p.g := by have := (h.lt.2.2 p (List.mem_of_getElem? HP.out)).1; omega
      have HK : Hid (∀ w2, wr.drew.grownBy w2 (some w0.heap.size) → w2.cell? ⟨B, 0, none⟩ = some (.slice (some ⟨pa, 0, none⟩) ps.length pc) ∧ w2.cell? ⟨pa, k, none⟩ = some (.pointer (some ⟨p.g, 0, none⟩)) ∧ w2.cell? ⟨p.g, 0, none⟩ = some (.slice (some ⟨p.d, 0, none⟩) X p.cap)) :=
        fun w2 hg => ⟨hg.cell c0' (fun e => hgB (Option.some.inj e).symm), hg.cell d0 (fun e => hgpa (Option.some.inj e).symm), hg.cell d1 (fun e => hgg (Option.some.inj e).symm)⟩
      have HN : Hid (p.xs.length = Nat.min X (T - S)) := by show _ = _; rw [← HX.out]; simp only [Nat.min_def]; split <;> omega
      have HPOS : Hid (∀ dp : Option Addr, (S < T → dp = some ⟨w0.heap.size, S, none⟩) → (0 < p.xs.length → dp = some ⟨w0.heap.size, S, none⟩ ∧ ∃ ad, some (⟨p.d, 0, none⟩ : Addr) = some ad ∧ ∀ j v, p.xs[j]? = some v → wr.drew.cell? (ad.add j) = some v)) := by
        intro dp hdp h0
        refine ⟨hdp (by have := HX.out; omega), _, rfl, fun j v hj => ?_⟩
        exact hpo.data.cells (g := p.d) rfl j v hj
      have HFT : Hid (S + p.xs.length ≤ cur.length) := by show _ ≤ _; rw [HCL.out, ← HX.out]; exact hle
      have HU1 : Hid (∀ v ∈ p.xs, v.oneCell' = true) := fun v hv => HU.out v (by unfold bytesOf; exact List.mem_flatMap.2 ⟨p, List.mem_of_getElem? HP.out, hv⟩)
      have hST : S ≤ T := by omega
      have hkI : (k : Int) < (ps.length : Int) := by omega
      clear hpo hb hcd
      by_cases hfull : S < T
      · have hne : T ≠ S := by omega
        go_wp2_with fail
        go_region_held3 (fun w' => w'.cell? ⟨B, 0, none⟩ = some (.slice (some ⟨pa, 0, none⟩) ps.length pc) ∧ w'.cell? ⟨pa, k, none⟩ = some (.pointer (some ⟨p.g, 0, none⟩)) ∧ w'.cell? ⟨p.g, 0, none⟩ = some (.slice (some ⟨p.d, 0, none⟩) X p.cap)) (first | exact ⟨c0', d0, d1⟩ | exact HK.out _ hgr2)
          ((refine step_copy (by rfl) _ _ _ _ (by rfl) 5 Tryd.underlying24 size5 _ _ _ _ _ _ (by rfl) (by rfl) w0.heap.size S cur 5 (Blk.drew hcur) p.xs HN.out (HPOS.out _ (fun _ => rfl)) HFT.out HU1.out ?_; rw [← HX.out]; intro w2 HG2 hgr2))
        have hgr : wr.grownBy w2 (some w0.heap.size) := ⟨hgr2.os, hgr2.tape, hgr2.output, hgr2.size, hgr2.block⟩
        have hwr : IntKind.i64.wrap ((S : Int) + (X : Int)) = ((S + X : Nat) : Int) := by rw [IntWalk.i64_in _ (by omega)]; omega
        have HWR := Lib.hid hwr
        clear hwr
        go_wp2_with fail
        go_roundw
        case rel => exact ⟨k + 1, S + X, splice cur S p.xs, by rw [HWR.out], by go_num, by omega, by rw [HSN.out, List.length_append, ← HS.out, ← HX.out], HG2.out, by rw [length_splice _ _ _ HFT.out, HCL.out], by rw [HSN.out, ← HCT.out, HX.out]; exact take_splice cur p.xs S (by rw [HCL.out]; omega), hbg, Nat.le_refl _, ho.grown hgr (by rintro g ⟨⟩; exact .inr (Nat.le_refl _))⟩
        case measure => simp [intOf]; omega
      · have hX0 : X = 0 := by omega
        obtain rfl : S = T := by omega
        have HN0 : Hid (p.xs.length = Nat.min X 0) := by show _ = _; rw [HN.out, Nat.sub_self]
        have HX0 := Lib.hid hX0
        clear hX0
        go_wp2_with fail
        go_region_held3 (fun w' => w'.cell? ⟨B, 0, none⟩ = some (.slice (some ⟨pa, 0, none⟩) ps.length pc) ∧ w'.cell? ⟨pa, k, none⟩ = some (.pointer (some ⟨p.g, 0, none⟩)) ∧ w'.cell? ⟨p.g, 0, none⟩ = some (.slice (some ⟨p.d, 0, none⟩) X p.cap)) (first | exact ⟨c0', d0, d1⟩ | exact HK.out _ hgr2)
          ((refine step_copy (by rfl) _ _ _ _ (by rfl) 5 Tryd.underlying24 size5 _ _ _ _ _ _ (by rfl) (by rfl) w0.heap.size S cur 5 (Blk.drew hcur) p.xs HN0.out (HPOS.out _ (fun h => absurd h (by omega))) HFT.out HU1.out ?_; rw [← HX.out]; intro w2 HG2 hgr2))
        have hgr : wr.grownBy w2 (some w0.heap.size) := ⟨hgr2.os, hgr2.tape, hgr2.output, hgr2.size, hgr2.block⟩
        have hwr : IntKind.i64.wrap ((S : Int) + (X : Int)) = ((S + X : Nat) : Int) := by rw [IntWalk.i64_in _ (by omega)]; omega
        have HWR := Lib.hid hwr
        clear hwr
        go_wp2_with fail
        go_roundw
        case rel => exact ⟨k + 1, S + X, splice cur S p.xs, by rw [HWR.out], by go_num, by omega, by rw [HSN.out, List.length_append, ← HS.out, ← HX.out], HG2.out, by rw [length_splice _ _ _ HFT.out, HCL.out], by rw [HSN.out, ← HCT.out, HX.out]; exact take_splice cur p.xs S (by rw [HCL.out]; omega), hbg, Nat.le_refl _, ho.grown hgr (by rintro g ⟨⟩; exact .inr (Nat.le_refl _))⟩
        case measure => simp [intOf]; omega
    · go_wp2_with fail
      go_ret
      have hke : ps.take k = ps := List.take_of_length_le (by omega)
      have h1 := HCT.out
      have h2 := HS.out
      rw [hke] at h1 h2
      refine ⟨_, rfl, ⟨by simp, .inr ⟨w0.heap.size, T, cur.toArray, ?_, Nat.le_refl _, hcur, ?_, ?_, ?_, ?_⟩⟩, ho⟩
      · rw [← HT.out]
        rfl
      · rw [HT.out]; exact Nat.le_refl _
      · unfold maxLen; omega
      · simp [HCL.out]
      · rw [Nat.mul_one, ← h2]; exact h1
end Go.Proofs.YtgjbafongiocbaaDoor
