/- Two slices that hold the same bytes are the same. -/
import Derived.Test.YtgjbafongiocbaaDoorE
namespace Go.Proofs.YtgjbafongiocbaaDoor
open Go.RowKit

theorem reads_u8 {w : World} {B n : Nat} {A : Option Addr} {xs : List Value} (h : Reads w B 1 A n xs) (hu : ∀ u ∈ xs, ∃ x : Int, u = .int .u8 x) {k : Nat} (hk : k < n) :
    ∃ ad x, A = some ad ∧ xs[k]? = some (.int .u8 x) ∧ w.cell? (ad.add k) = some (.int .u8 x) := by
  obtain ⟨ad, u, e, _, hx, hc⟩ := h.at_ hk
  obtain ⟨x, rfl⟩ := hu u (List.mem_of_getElem? hx)
  exact ⟨ad, x, e, hx, hc⟩

theorem compare_same (A B : Option Addr) (n c d : Nat) (xs : List Value) (w : World) (ha : Reads w w.heap.size 1 A n xs) (hb : Reads w w.heap.size 1 B n xs) (hu : ∀ u ∈ xs, ∃ x : Int, u = .int .u8 x) (hn : n ≤ 1099511627776) :
    Calls Tryd.prog 19 #[.slice A n c, .slice B n d] w fun e w' => e = .returned (.int .i64 0) ∧ w.grownBy w' none := by
  go_enter Tryd.func19, Tryd.ntmps19
  go_wp2_with fail
  go_loopw [5] (fun i wr => ∃ k : Nat, k ≤ n ∧ i = .int .i64 k ∧ ∃ m, wr = w.drewN m) (fun i _ => n - (intOf i).toNat)
  case atStart => exact ⟨0, by omega, rfl, 0, rfl⟩
  case round =>
    obtain ⟨k, hk, rfl, m, rfl⟩ := hrel
    by_cases hlt : k < n
    · obtain ⟨ad, x, rfl, hx, hc⟩ := reads_u8 ha hu hlt
      obtain ⟨bd, y, rfl, hy, hd⟩ := reads_u8 hb hu hlt
      obtain rfl : x = y := by rw [hx] at hy; injection hy with hy; injection hy
      clear hx hy ha hb hu
      have hc' : (w.drewN m).cell? (ad.add k) = some (.int .u8 x) := hc
      have hd' : (w.drewN m).cell? (bd.add k) = some (.int .u8 x) := hd
      go_wp2_with fail
      go_quiet (fail)
      go_wp2
      go_roundw
      case rel => exact ⟨k + 1, by omega, by go_num, _, rfl⟩
      case measure => simp [intOf]; omega
    · go_wp2
      go_ret
      exact ⟨rfl, ⟨rfl, rfl, rfl, Nat.le_refl _, fun _ _ _ => rfl⟩⟩

theorem same_bytes (A B : Option Addr) (n c d : Nat) (xs : List Value) (w : World) (ha : Reads w w.heap.size 1 A n xs) (hb : Reads w w.heap.size 1 B n xs) (hu : ∀ u ∈ xs, ∃ x : Int, u = .int .u8 x) (hn : n ≤ 1099511627776) :
    Calls Tryd.prog 8 #[.slice A n c, .slice B n d] w fun e w' => e = .returned (.bool true) ∧ w.grownBy w' none := by
  go_enter Tryd.func8, Tryd.ntmps8
  go_wp2_with (go_at_call 19; refine (compare_same _ _ _ _ _ xs _ ha hb hu hn).mono ?_; rintro e w1 ⟨rfl, hg⟩)
  go_ret
  exact ⟨rfl, hg⟩
end Go.Proofs.YtgjbafongiocbaaDoor
