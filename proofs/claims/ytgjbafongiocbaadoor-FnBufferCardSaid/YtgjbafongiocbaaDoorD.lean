/- The pieces that came in, and the test that they fit. -/
import Derived.Test.YtgjbafongiocbaaDoorC
namespace Go.Proofs.YtgjbafongiocbaaDoor
open Go.RowKit

/-- A piece as it lies in memory. -/
structure Pc where
  A : Option Addr
  n : Nat
  c : Nat
  xs : List Value
  cut : Bool
  pos : Int
def Pc.val (p : Pc) : Value := .slice p.A p.n p.c

/-- The slice of pieces 'P', of length m, holds the pieces ps; all of it lies below block B. -/
structure Pieces (w : World) (B : Nat) (P : Option Addr) (ps : List Pc) : Prop where
  here : 0 < ps.length → ∃ b off, P = some ⟨b, off, none⟩ ∧ b < B ∧ ∀ (k : Nat) (p : Pc), ps[k]? = some p → w.cell? ⟨b, off + k * 3, none⟩ = some p.val ∧ w.cell? ⟨b, off + k * 3 + 1, none⟩ = some (.bool p.cut) ∧ w.cell? ⟨b, off + k * 3 + 2, none⟩ = some (.int .i64 p.pos)
  each : ∀ p ∈ ps, Reads w B 1 p.A p.n p.xs ∧ p.n ≤ 9223372036854775807 ∧ ∀ u ∈ p.xs, ∃ x : Int, u = .int .u8 x

theorem Pieces.keep {w w' : World} {B : Nat} {P : Option Addr} {ps : List Pc} (h : Pieces w B P ps) (hk : ∀ p : Addr, p.block < B → w'.cell? p = w.cell? p) : Pieces w' B P ps := by
  refine ⟨fun h0 => ?_, fun p hp => ?_⟩
  · obtain ⟨b, off, e, hb, hc⟩ := h.here h0
    refine ⟨b, off, e, hb, fun k p hp => ?_⟩
    obtain ⟨c0, c1, c2⟩ := hc k p hp
    exact ⟨(hk ⟨b, off + k * 3, none⟩ hb).trans c0, (hk ⟨b, off + k * 3 + 1, none⟩ hb).trans c1, (hk ⟨b, off + k * 3 + 2, none⟩ hb).trans c2⟩
  · obtain ⟨a, b, c⟩ := h.each p hp
    exact ⟨a.keep hk, b, c⟩
theorem Pieces.more {w : World} {B B' : Nat} {P : Option Addr} {ps : List Pc} (h : Pieces w B P ps) (hB : B ≤ B') : Pieces w B' P ps := by
  refine ⟨fun h0 => ?_, fun p hp => ?_⟩
  · obtain ⟨b, off, e, hb, hc⟩ := h.here h0
    exact ⟨b, off, e, by omega, hc⟩
  · obtain ⟨a, b, c⟩ := h.each p hp
    exact ⟨a.more hB, b, c⟩

def allFit (ps : List Pc) : Bool := ps.all fun p => decide (p.n ≤ 2147483647)

theorem allFit_snoc (ps : List Pc) (k : Nat) (p : Pc) (h : ps[k]? = some p) : allFit (ps.take (k + 1)) = (allFit (ps.take k) && decide (p.n ≤ 2147483647)) := by
  obtain ⟨hk, rfl⟩ := List.getElem?_eq_some_iff.1 h
  unfold allFit
  rw [List.take_succ_eq_append_getElem hk, List.all_append]
  simp
theorem allFit_not (ps : List Pc) (k : Nat) (p : Pc) (h : ps[k]? = some p) (hn : ¬ p.n ≤ 2147483647) : allFit ps = false := by
  unfold allFit
  rw [List.all_eq_false]
  exact ⟨p, List.mem_of_getElem? h, by simpa using hn⟩

theorem fits21_any (P : Option Addr) (ps : List Pc) (c : Nat) (w : World) (h : Pieces w w.heap.size P ps) (hm : ps.length ≤ 9223372036854775807) :
    Calls Tryd.prog 4 #[.slice P ps.length c] w fun e w' => e = .returned (.bool (decide (ps.length ≤ 2147483647) && allFit ps)) ∧ w.grownBy w' none := by
  by_cases h3 : ps.length ≤ 2147483647
  · have hb : decide (ps.length ≤ 2147483647) = true := by simpa using h3
    have HB := Lib.hid hb
    clear hb
    go_enter Tryd.func4, Tryd.ntmps4
    go_wp2_with fail
    go_loopw [10] (fun i wr => ∃ k : Nat, k ≤ ps.length ∧ i = .int .i64 k ∧ w.grownBy wr none ∧ allFit (ps.take k) = true) (fun i _ => ps.length - (intOf i).toNat)
    case atStart => exact ⟨0, by omega, rfl, ⟨rfl, rfl, rfl, Nat.le_refl _, fun _ _ _ => rfl⟩, rfl⟩
    case round =>
      obtain ⟨k, hk, rfl, hg, hall⟩ := hrel
      have HA := Lib.hid hall
      clear hall
      by_cases hlt : k < ps.length
      · obtain ⟨b, off, rfl, hb, hcs⟩ := h.here (by omega)
        obtain ⟨p, hp⟩ : ∃ p, ps[k]? = some p := ⟨ps[k], List.getElem?_eq_getElem hlt⟩
        obtain ⟨c0, c1, c2⟩ := hcs k p hp
        have c0' : wr.cell? ⟨b, off + k * 3, none⟩ = some (.slice p.A p.n p.c) := hg.cell c0 (by simp)
        have c1' := hg.cell c1 (by simp)
        have c2' := hg.cell c2 (by simp)
        have HP := Lib.hid hp
        clear hp c0 c1 c2 hcs
        have hpn := (h.each p (List.mem_of_getElem? HP.out)).2.1
        clear h
        by_cases hpf : p.n ≤ 2147483647
        · go_wp2_with (go_at_call 9; refine (fits22_yes _ _ _ _ _ _ hpn hpf).mono ?_; rintro e w1 ⟨rfl, hg1⟩)
          go_roundw
          case rel => exact ⟨k + 1, by omega, by go_num, grown_trans hg (grown_none_of_alloc hg1 (.inr rfl)) (by simp), by rw [allFit_snoc ps k p HP.out, HA.out]; simpa using hpf⟩
          case measure => simp [intOf]; omega
        · go_wp2_with (go_at_call 9; refine (fits22_no _ _ _ _ _ _ hpn hpf).mono ?_; rintro e w1 ⟨rfl, hg1⟩)
          go_ret
          refine ⟨?_, grown_trans hg (grown_none_of_alloc hg1 (.inr rfl)) (by simp)⟩
          rw [HB.out, allFit_not ps k p HP.out hpf]
          rfl
      · go_wp2
        go_ret
        have hke : ps.take k = ps := List.take_of_length_le (by omega)
        refine ⟨?_, hg⟩
        have := HA.out
        rw [hke] at this
        rw [HB.out, this]
        rfl
  · have hb : decide (ps.length ≤ 2147483647) = false := by simpa using h3
    have HB := Lib.hid hb
    clear hb
    go_enter Tryd.func4, Tryd.ntmps4
    go_wp2
    go_ret
    refine ⟨?_, ⟨rfl, rfl, rfl, Nat.le_refl _, fun _ _ _ => rfl⟩⟩
    rw [HB.out]
    rfl
end Go.Proofs.YtgjbafongiocbaaDoor
