/- Contracts of the functions that look at pieces. -/
import Derived.Test.YtgjbafongiocbaaDoorB
namespace Go.Proofs.YtgjbafongiocbaaDoor
open Go.RowKit

theorem few_any (ad : Addr) (A : Option Addr) (n c c' : Nat) (w : World) (hc : w.cell? ad = some (.slice A n c)) (hn : n ≤ 1099511627776) :
    Calls Tryd.prog 5 #[.slice (some ad) 1 c'] w fun e w' => e = .returned (.bool (decide (n ≤ 300))) ∧ w = w' := by
  by_cases h3 : n ≤ 300
  · have hb : decide (n ≤ 300) = true := by simpa using h3
    have hg : decide (300 < n) = false := by simp; omega
    have HB := Lib.hid hb
    clear hb
    go_enter Tryd.func5, Tryd.ntmps5
    go_wp2_with fail
    go_loop [7] (fun i => ∃ k : Nat, k ≤ 1 ∧ i = .int .i64 k) (fun i => 1 - (intOf i).toNat)
    case atStart => exact ⟨0, by omega, rfl⟩
    case round =>
      obtain ⟨k, hk, rfl⟩ := hrel
      by_cases h0 : k = 0
      · subst h0
        go_wp2
        go_round
        case rel => exact ⟨1, by omega, by go_num⟩
        case measure => simp [intOf]
      · obtain rfl : k = 1 := by omega
        go_wp2
        go_ret
        exact ⟨by first | rfl | (rw [HB.out]; rfl), rfl⟩
  · have hb : decide (n ≤ 300) = false := by simpa using h3
    have HB := Lib.hid hb
    clear hb
    go_enter Tryd.func5, Tryd.ntmps5
    go_wp2_with fail
    go_loop [7] (fun i => ∃ k : Nat, k ≤ 0 ∧ i = .int .i64 k) (fun i => 1 - (intOf i).toNat)
    case atStart => exact ⟨0, by omega, rfl⟩
    case round =>
      obtain ⟨k, hk, rfl⟩ := hrel
      obtain rfl : k = 0 := by omega
      go_wp2
      go_ret
      exact ⟨by first | rfl | (rw [HB.out]; rfl), rfl⟩

theorem fits22_any (A : Option Addr) (n c : Nat) (b : Bool) (x : Int) (w : World) (hn : n ≤ 9223372036854775807) :
    Calls Tryd.prog 9 #[.agg #[.slice A n c, .bool b, .int .i64 x]] w fun e w' => e = .returned (.bool (decide (n ≤ 2147483647))) ∧ w.grownBy w' none := by
  by_cases h3 : n ≤ 2147483647
  · have hb : decide (n ≤ 2147483647) = true := by simpa using h3
    have HB := Lib.hid hb
    clear hb
    go_enter Tryd.func9, Tryd.ntmps9
    go_wp2
    go_ret
    exact ⟨by first | rfl | (rw [HB.out]; rfl), World.grownBy_alloc w _ none⟩
  · have hb : decide (n ≤ 2147483647) = false := by simpa using h3
    have HB := Lib.hid hb
    clear hb
    go_enter Tryd.func9, Tryd.ntmps9
    go_wp2
    go_ret
    exact ⟨by first | rfl | (rw [HB.out]; rfl), World.grownBy_alloc w _ none⟩
theorem fits22_yes (A : Option Addr) (n c : Nat) (b : Bool) (x : Int) (w : World) (hn : n ≤ 9223372036854775807) (h : n ≤ 2147483647) :
    Calls Tryd.prog 9 #[.agg #[.slice A n c, .bool b, .int .i64 x]] w fun e w' => e = .returned (.bool true) ∧ w.grownBy w' none := by
  have hb : decide (n ≤ 2147483647) = true := by simpa using h
  have hh := fits22_any A n c b x w hn
  rw [hb] at hh
  exact hh
theorem fits22_no (A : Option Addr) (n c : Nat) (b : Bool) (x : Int) (w : World) (hn : n ≤ 9223372036854775807) (h : ¬ n ≤ 2147483647) :
    Calls Tryd.prog 9 #[.agg #[.slice A n c, .bool b, .int .i64 x]] w fun e w' => e = .returned (.bool false) ∧ w.grownBy w' none := by
  have hb : decide (n ≤ 2147483647) = false := by simpa using h
  have hh := fits22_any A n c b x w hn
  rw [hb] at hh
  exact hh
theorem few_yes (ad : Addr) (A : Option Addr) (n c c' : Nat) (w : World) (hc : w.cell? ad = some (.slice A n c)) (hn : n ≤ 1099511627776) (h : n ≤ 300) :
    Calls Tryd.prog 5 #[.slice (some ad) 1 c'] w fun e w' => e = .returned (.bool true) ∧ w = w' := by
  have hb : decide (n ≤ 300) = true := by simpa using h
  have hh := few_any ad A n c c' w hc hn
  rw [hb] at hh
  exact hh
theorem few_no (ad : Addr) (A : Option Addr) (n c c' : Nat) (w : World) (hc : w.cell? ad = some (.slice A n c)) (hn : n ≤ 1099511627776) (h : ¬ n ≤ 300) :
    Calls Tryd.prog 5 #[.slice (some ad) 1 c'] w fun e w' => e = .returned (.bool false) ∧ w = w' := by
  have hb : decide (n ≤ 300) = false := by simpa using h
  have hh := few_any ad A n c c' w hc hn
  rw [hb] at hh
  exact hh
end Go.Proofs.YtgjbafongiocbaaDoor
