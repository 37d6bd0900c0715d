/- The law: whatever the pieces, it returns true. -/
import Derived.Test.YtgjbafongiocbaaDoorP
namespace Go.Proofs.YtgjbafongiocbaaDoor
open Go.RowKit

theorem fits_parts {ps : List Pc} (h : (decide (ps.length ≤ 2147483647) && allFit ps) = true) : ps.length ≤ 2147483647 ∧ ∀ p ∈ ps, p.n ≤ 2147483647 := by
  rw [Bool.and_eq_true] at h
  refine ⟨by simpa using h.1, fun p hp => ?_⟩
  have h2 := h.2
  unfold allFit at h2
  rw [List.all_eq_true] at h2
  simpa using h2 p hp

/-- The loop that looks at the pieces: k are few. -/
def FS (w0 : World) (ps : List Pc) (a i : Value) (wr : World) : Prop :=
  ∃ k : Nat, a = .int .i64 (cutsOf (ps.take k)) ∧ i = .int .i64 k ∧ k ≤ ps.length ∧ (∀ p ∈ ps.take k, p.n ≤ 300) ∧ w0.grownBy wr none

theorem cutsOf_le (ps : List Pc) (k : Nat) : cutsOf (ps.take k) ≤ k := by
  unfold cutsOf
  exact Nat.le_trans (List.length_filter_le _ _) (List.length_take_le _ _)

theorem few_snoc {ps : List Pc} {k : Nat} {p : Pc} (hp : ps[k]? = some p) (h : ∀ p ∈ ps.take k, p.n ≤ 300) (h3 : p.n ≤ 300) : ∀ p ∈ ps.take (k + 1), p.n ≤ 300 := by
  obtain ⟨hk, rfl⟩ := List.getElem?_eq_some_iff.1 hp
  rw [List.take_succ_eq_append_getElem hk]
  intro q hq
  rcases List.mem_append.1 hq with hq | hq
  · exact h q hq
  · simp only [List.mem_singleton] at hq
    subst hq
    exact h3

theorem one_run (w3 : World) {ea : Addr} (hE : w3.cell? ⟨0, 0, none⟩ = some (.iface 61 (.pointer (some ea)))) :
    Calls Tryd.prog 7 #[.int .i64 1, .slice (some ⟨w3.heap.size + 1, 0, none⟩) 1 1, .int .i64 0, .int .i64 1]
      ((w3.alloc (.cells #[.int .u8 1] 5)).alloc (.cells #[.slice (some ⟨w3.heap.size, 0, none⟩) 1 1, .bool false, .int .i64 0] 26))
      fun e w' => ∃ va vr, e = .returned (.tuple #[va, .int .i64 1, vr]) ∧ w3.grownBy w' none := by
  have hB1 : Blk ((w3.alloc (.cells #[.int .u8 1] 5)).alloc (.cells #[.slice (some ⟨w3.heap.size, 0, none⟩) 1 1, .bool false, .int .i64 0] 26)) w3.heap.size 5 #[.int .u8 1] := (Blk.new w3 5 _).alloc _
  have hB2 : Blk ((w3.alloc (.cells #[.int .u8 1] 5)).alloc (.cells #[.slice (some ⟨w3.heap.size, 0, none⟩) 1 1, .bool false, .int .i64 0] 26)) (w3.heap.size + 1) 26 #[.slice (some ⟨w3.heap.size, 0, none⟩) 1 1, .bool false, .int .i64 0] := by
    have := Blk.new (w3.alloc (.cells #[.int .u8 1] 5)) 26 #[.slice (some ⟨w3.heap.size, 0, none⟩) 1 1, .bool false, .int .i64 0]
    rw [show (w3.alloc (.cells #[.int .u8 1] 5)).heap.size = w3.heap.size + 1 from by simp] at this
    exact this
  have hgW : w3.grownBy ((w3.alloc (.cells #[.int .u8 1] 5)).alloc (.cells #[.slice (some ⟨w3.heap.size, 0, none⟩) 1 1, .bool false, .int .i64 0] 26)) none :=
    grown_trans (World.grownBy_alloc w3 _ none) (World.grownBy_alloc _ _ none) (by simp)
  have hEW := hgW.cell hE (by simp)
  have hrun := run_any (some ⟨w3.heap.size + 1, 0, none⟩) [⟨some ⟨w3.heap.size, 0, none⟩, 1, 1, [.int .u8 1], false, 0⟩] 1 1 1 0 [.int .u8 1] (w0 := (w3.alloc (.cells #[.int .u8 1] 5)).alloc (.cells #[.slice (some ⟨w3.heap.size, 0, none⟩) 1 1, .bool false, .int .i64 0] 26))
    ⟨fun _ => ⟨w3.heap.size + 1, 0, rfl, hB2.lt, fun k p hp => ?_⟩, fun p hp => ?_⟩ (by simp) (fun p hp => ?_) (by simp [cutsOf]) (by simp [buf, bufStep]) (by omega) (by omega) (by omega) (by omega) (by simp) hEW
  · exact hrun.mono fun e w' ⟨va, vr, he, _, _, hg⟩ => ⟨va, vr, he, grown_trans hgW hg (by simp)⟩
  · match k, hp with
    | 0, hp =>
      simp only [List.getElem?_cons_zero, Option.some.injEq] at hp
      subst hp
      exact ⟨hB2.cell 0, hB2.cell 1, hB2.cell 2⟩
  · simp only [List.mem_singleton] at hp
    subst hp
    refine ⟨⟨rfl, fun _ => ⟨_, rfl, hB1.lt, fun j u hu => ?_⟩⟩, by simp, by simp⟩
    match j, hu with
    | 0, hu =>
      simp only [List.getElem?_cons_zero, Option.some.injEq] at hu
      subst hu
      exact hB1.cell 0
  · simp only [List.mem_singleton] at hp
    subst hp
    simp

set_option maxRecDepth 100000 in
set_option maxHeartbeats 4000000 in
theorem law_any {w0 : World} (P : Option Addr) (ps : List Pc) (c : Nat) (page fr size : Int) (h : Pieces w0 w0.heap.size P ps) (hm : ps.length ≤ 9223372036854775807) {ea : Addr} (hE : w0.cell? ⟨0, 0, none⟩ = some (.iface 61 (.pointer (some ea)))) :
    Calls Tryd.prog 3 #[.int .i64 page, .slice P ps.length c, .int .i64 fr, .int .i64 size] w0 fun e w' => e = .returned (.bool true) ∧ w0.grownBy w' none := by
  go_enter Tryd.func3, Tryd.ntmps3
  go_wp2_with fail
  refine (fits21_any P ps c w0 h hm).mono ?_
  rintro e w1 ⟨he, hg1⟩
  cases hfit : (decide (ps.length ≤ 2147483647) && allFit ps)
  · rw [hfit] at he
    subst he
    clear hfit
    go_wp2_with fail
    go_ret
    exact ⟨rfl, hg1⟩
  · rw [hfit] at he
    subst he
    obtain ⟨hm31, hn31⟩ := fits_parts hfit
    have HN31 := Lib.hid hn31
    clear hfit hn31
    go_wp2_with fail
    go_loopw [9, 25] (fun a i wr => FS w0 ps a i wr) (fun _ i _ => ps.length - (intOf i).toNat)
    case atStart => exact ⟨0, rfl, rfl, Nat.zero_le _, by simp, hg1⟩
    case round =>
      obtain ⟨k, rfl, rfl, hk, hf, hg⟩ := hrel
      have HF := Lib.hid hf
      have hck := cutsOf_le ps k
      clear hf
      by_cases hlt : k < ps.length
      · obtain ⟨b, off, rfl, hb, hcs⟩ := h.here (by omega)
        obtain ⟨p, hp⟩ : ∃ p, ps[k]? = some p := ⟨ps[k], List.getElem?_eq_getElem hlt⟩
        obtain ⟨c0, c1, c2⟩ := hcs k p hp
        have c0' : wr.cell? ⟨b, off + k * 3, none⟩ = some (.slice p.A p.n p.c) := hg.cell c0 (by simp)
        have c1' := hg.cell c1 (by simp)
        have c2' := hg.cell c2 (by simp)
        have hpm := List.mem_of_getElem? hp
        have hpn := HN31.out p hpm
        have hcs' := cutsOf_snoc ps k p hp
        have HP := Lib.hid hp
        have HCS := Lib.hid hcs'
        clear hp c0 c1 c2 hcs hcs'
        have hcellW : ∀ x : Obj, ((wr.alloc x).alloc (.cells #[.slice p.A p.n p.c] 24)).cell? ⟨wr.heap.size + 1, 0, none⟩ = some (.slice p.A p.n p.c) := fun x => by
          have := Blk.new (wr.alloc x) 24 #[.slice p.A p.n p.c]
          rw [show (wr.alloc x).heap.size = wr.heap.size + 1 from by simp] at this
          exact this.cell 0
        have HW := Lib.hid hcellW
        have hgW : ∀ x y : Obj, w0.grownBy ((wr.alloc x).alloc y) none := fun x y => grown_trans (grown_trans hg (World.grownBy_alloc wr x none) (by simp)) (World.grownBy_alloc _ y none) (by simp)
        have HGW := Lib.hid hgW
        clear hcellW hgW
        by_cases hp3 : p.n ≤ 300
        · cases hcu : p.cut
          · rw [hcu] at c1'
            have HC := Lib.hid hcu
            clear hcu
            go_wp2_with fail
            refine (few_yes _ p.A p.n p.c 1 _ (HW.out _) (by omega) hp3).mono ?_
            rintro e w2 ⟨rfl, rfl⟩
            go_wp2_with fail
            go_roundw
            case rel => exact ⟨k + 1, by rw [HCS.out, HC.out]; simp, by go_num, by omega, few_snoc HP.out HF.out hp3, HGW.out _ _⟩
            case measure => simp [intOf]; omega
          · rw [hcu] at c1'
            have HC := Lib.hid hcu
            clear hcu
            go_wp2_with fail
            refine (few_yes _ p.A p.n p.c 1 _ (HW.out _) (by omega) hp3).mono ?_
            rintro e w2 ⟨rfl, rfl⟩
            go_wp2_with fail
            go_roundw
            case rel => exact ⟨k + 1, by rw [HCS.out, HC.out, if_pos rfl]; go_num, by go_num, by omega, few_snoc HP.out HF.out hp3, HGW.out _ _⟩
            case measure => simp [intOf]; omega
        · go_wp2_with fail
          refine (few_no _ p.A p.n p.c 1 _ (HW.out _) (by omega) hp3).mono ?_
          rintro e w2 ⟨rfl, rfl⟩
          go_wp2_with fail
          go_ret
          exact ⟨rfl, HGW.out _ _⟩
      · have hke : ps.take k = ps := List.take_of_length_le (by omega)
        have hall := HF.out
        rw [hke] at hall
        rw [hke] at hck
        have hpw : Pieces wr wr.heap.size P ps := (h.keep fun a ha => World.cell?_of_block (hg.block a.block ha (by simp))).more hg.size
        have HALL := Lib.hid hall
        have HKE := Lib.hid hke
        clear hall hke
        go_wp2_with fail
        refine (buffered_any P ps c wr hpw hm31 HALL.out).mono ?_
        rintro e w2 ⟨hg2, hres⟩
        have hgr2 := grown_trans hg hg2 (by simp)
        rcases hres with ⟨hbn, rfl⟩ | ⟨due, v, hbs, hdl, rfl, hown⟩
        · clear hbn
          go_wp2_with fail
          go_ret
          exact ⟨rfl, hgr2⟩
        · have HBS := Lib.hid hbs
          have hpw2 := Lib.hid ((hpw.keep fun a ha => World.cell?_of_block (hg2.block a.block ha (by simp))).more hg2.size)
          have hE2 : w2.cell? ⟨0, 0, none⟩ = some (.iface 61 (.pointer (some ea))) := hgr2.cell hE (by simp)
          have hdm : due.length ≤ 1099511627776 := by omega
          obtain ⟨A, cv, rfl⟩ := own_form hown
          have HOWN := Lib.hid hown
          clear hbs hown hpw h HN31 HF hdl
          by_cases h1 : 8 < cutsOf (ps.take k)
          · go_wp2_with fail
            go_ret
            exact ⟨rfl, hgr2⟩
          by_cases h2 : 60 < ps.length
          · go_wp2_with fail
            go_ret
            exact ⟨rfl, hgr2⟩
          by_cases h3 : page < 1
          · go_wp2_with fail
            go_ret
            exact ⟨rfl, hgr2⟩
          by_cases h4 : 1000 < page
          · go_wp2_with fail
            go_ret
            exact ⟨rfl, hgr2⟩
          by_cases h5 : size < 1
          · go_wp2_with fail
            go_ret
            exact ⟨rfl, hgr2⟩
          by_cases h6 : 1000 < size
          · go_wp2_with fail
            go_ret
            exact ⟨rfl, hgr2⟩
          by_cases h7 : fr < 0
          · go_wp2_with fail
            go_ret
            exact ⟨rfl, hgr2⟩
          by_cases h8 : (due.length : Int) ≤ fr
          · go_wp2_with fail
            go_ret
            exact ⟨rfl, hgr2⟩
          obtain ⟨pn, rfl⟩ := Int.eq_ofNat_of_zero_le (show 0 ≤ page by omega)
          obtain ⟨sn, rfl⟩ := Int.eq_ofNat_of_zero_le (show 0 ≤ size by omega)
          obtain ⟨fn, rfl⟩ := Int.eq_ofNat_of_zero_le (show 0 ≤ fr by omega)
          have hcut8 : cutsOf ps ≤ 8 := by rw [← HKE.out]; omega
          go_wp2_with fail
          refine (run_any P ps c pn sn fn due hpw2.out (by omega) HALL.out hcut8 HBS.out (by omega) (by omega) (by omega) (by omega) (by omega) hE2).mono ?_
          rintro e w3 ⟨va, vr, rfl, hva, hvr, hg3⟩
          go_wp2_with fail
          have hE3 := hg3.cell hE2 (by simp)
          refine (one_run w3 hE3).mono ?_
          rintro e w4 ⟨vb, vs, rfl, hg4⟩
          have hu8 := buf_u8 ps [] due (by simp) (fun q hq => (hpw2.out.each q hq).2.2) HBS.out
          have hgr4 := grown_trans (grown_trans hgr2 hg3 (by simp)) hg4 (by simp)
          have hva4 := hva.kept hg4 (by cases va.ownBlock <;> simp)
          have hvr4 := hvr.kept hg4 (by cases vr.ownBlock <;> simp)
          have hdue4 := (HOWN.out.kept hg3 (by cases (Value.slice A due.length cv).ownBlock <;> simp)).kept hg4 (by cases (Value.slice A due.length cv).ownBlock <;> simp)
          obtain ⟨A2, c2, rfl⟩ := own_form hva4
          obtain ⟨A3, c3, rfl⟩ := own_form hvr4
          have hfl : fn < due.length := by omega
          obtain ⟨g, rfl, hLc, hcm, _⟩ := own_cut hdue4 hfl
          have hRa := Reads.of_own hva4
          have hRr := Reads.of_own hvr4
          have hRd := Reads.of_own hdue4
          have hRd' : Reads w4 w4.heap.size 1 (some ⟨g, fn, none⟩) (due.length - fn) (due.drop fn) := by
            have h9 := hRd.cut (k := fn) (cap := cv) (by omega) hLc
            rw [if_neg (by omega), Nat.mul_one] at h9
            simpa [Addr.add_lit] using h9
          have hcv : cv ≤ 9223372036854775807 := by unfold maxLen at hcm; omega
          have hud : ∀ u ∈ due.drop fn, ∃ x : Int, u = .int .u8 x := fun u hu => hu8 u (List.mem_of_mem_drop hu)
          have H1 := Lib.hid (same_bytes A2 (some ⟨g, 0, none⟩) due.length c2 cv due w4 hRa hRd hu8 hdm)
          have H2 := Lib.hid fun w5 (hg5 : w4.grownBy w5 none) => same_bytes A3 (some ⟨g, fn, none⟩) (due.length - fn) c3 (cv - fn) (due.drop fn) w5 ((hRr.keep fun a ha => World.cell?_of_block (hg5.block a.block ha (by simp))).more hg5.size) ((hRd'.keep fun a ha => World.cell?_of_block (hg5.block a.block ha (by simp))).more hg5.size) hud (by omega)
          clear hva hvr hva4 hvr4 hdue4 hRa hRr hRd hRd' hu8 hud HOWN hE2 hE3 hg3 hg4 hg2 hg hg1 hgr2
          go_wp2_with fail
          refine H1.out.mono ?_
          rintro e w5 ⟨rfl, hg5⟩
          go_wp2_with fail
          refine (H2.out w5 hg5).mono ?_
          rintro e w6 ⟨rfl, hg6⟩
          go_wp2_with fail
          go_ret
          exact ⟨rfl, grown_trans (grown_trans hgr4 hg5 (by simp)) hg6 (by simp)⟩
end Go.Proofs.YtgjbafongiocbaaDoor
