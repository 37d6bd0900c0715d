/- The buffer's small functions: its length, and the page of a place. -/
import Derived.Test.YtgjbafongiocbaaDoorG
namespace Go.Proofs.YtgjbafongiocbaaDoor
open Go.RowKit

theorem bytesOf_snoc (ps : List Pg) (k : Nat) (p : Pg) (h : ps[k]? = some p) : bytesOf (ps.take (k + 1)) = bytesOf (ps.take k) ++ p.xs := by
  obtain ⟨hk, rfl⟩ := List.getElem?_eq_some_iff.1 h
  unfold bytesOf
  rw [List.take_succ_eq_append_getElem hk, List.flatMap_append]
  simp
theorem bytesOf_take_le (ps : List Pg) (k : Nat) : (bytesOf (ps.take k)).length ≤ (bytesOf ps).length := by
  unfold bytesOf
  have h := congrArg (fun l => (l.flatMap Pg.xs).length) (List.take_append_drop k ps)
  simp only [List.flatMap_append, List.length_append] at h
  omega

theorem assert_true (w : World) : Calls Tryd.prog 21 #[.bool true] w fun e w' => e = .returned (.tuple #[]) ∧ w = w' := by
  go_enter Tryd.func21, Tryd.ntmps21
  go_wp2
  go_end0
  exact ⟨rfl, rfl⟩

theorem len_any {w : World} {base B pa pc next : Nat} {ps : List Pg} (h : Buf w base B pa pc ps next) :
    Calls Tryd.prog 18 #[.pointer (some ⟨B, 0, none⟩)] w fun e w' => e = .returned (.int .i64 (bytesOf ps).length) ∧ w = w' := by
  obtain ⟨_, h1, _⟩ := h.cell
  go_enter Tryd.func18, Tryd.ntmps18
  go_wp2
  go_ret
  exact ⟨rfl, rfl⟩

/-- The page of place q, and the place in it. -/
def AtPage (ps : List Pg) (q : Nat) (w : World) (e : Ending) (w' : World) : Prop :=
  ∃ (i s : Nat) (p : Pg), e = .returned (.tuple #[.int .i64 i, .int .i64 s]) ∧ ps[i]? = some p ∧ (bytesOf (ps.take i)).length + s = q ∧ s < p.xs.length ∧ w = w'

theorem offset_any {w : World} {base B pa pc next : Nat} {ps : List Pg} (h : Buf w base B pa pc ps next) (q : Nat) (hq : q < (bytesOf ps).length) (hl : (bytesOf ps).length ≤ 1099511627776) (hpl : ps.length ≤ 1099511627776) :
    Calls Tryd.prog 20 #[.pointer (some ⟨B, 0, none⟩), .int .i64 q] w (AtPage ps q w) := by
  obtain ⟨h0, h1, _⟩ := h.cell
  go_enter Tryd.func20, Tryd.ntmps20
  go_wp2_with (go_at_call 21; refine (assert_true _).mono ?_; rintro e w' ⟨rfl, rfl⟩)
  go_loop [6, 7, 8, 9] (fun a b z i => ∃ k S : Nat, a = .int .i64 0 ∧ b = .int .i64 0 ∧ i = .int .i64 k ∧ z = .int .i64 S ∧ k ≤ ps.length ∧ S ≤ q ∧ Hid (S = (bytesOf (ps.take k)).length)) (fun _ _ _ i => ps.length - (intOf i).toNat)
  case atStart => exact ⟨0, 0, rfl, rfl, rfl, rfl, by omega, by omega, rfl⟩
  case round =>
    obtain ⟨k, S, rfl, rfl, rfl, rfl, hk, hS, HS⟩ := hrel
    have hkl : k < ps.length := by
      rcases Nat.lt_or_ge k ps.length with h | h
      · exact h
      · have h2 := HS.out
        rw [List.take_of_length_le h] at h2
        omega
    obtain ⟨p, hp⟩ : ∃ p, ps[k]? = some p := ⟨ps[k], List.getElem?_eq_getElem hkl⟩
    obtain ⟨c0, c1, c2, c3⟩ := h.ptr hp
    have hsn := bytesOf_snoc ps k p hp
    have hle := bytesOf_take_le ps (k + 1)
    rw [hsn, List.length_append, ← HS.out] at hle
    have hll := h.len_le
    have HSN : Hid ((bytesOf (ps.take (k + 1))).length = S + p.xs.length) := by show _ = _; rw [hsn, List.length_append, HS.out]
    have HP := Lib.hid hp
    clear hsn hp h
    obtain ⟨L, hL⟩ : ∃ L, L = p.xs.length := ⟨_, rfl⟩
    rw [← hL] at c1 c2 hle HSN
    have HL := Lib.hid hL
    clear hL
    by_cases hin : q < S + L
    · go_wp2
      go_ret2
      refine ⟨k, q - S, p, ?_, HP.out, by rw [← HS.out]; omega, by rw [← HL.out]; omega, rfl⟩
      have e : ((q - S : Nat) : Int) = (q : Int) - (S : Int) := by omega
      rw [e]
      rfl
    · go_wp2
      go_round
      case rel => exact ⟨k + 1, S + L, rfl, rfl, by go_num, by go_num, by omega, by omega, HSN.out.symm⟩
      case measure => simp [intOf]; omega
end Go.Proofs.YtgjbafongiocbaaDoor
