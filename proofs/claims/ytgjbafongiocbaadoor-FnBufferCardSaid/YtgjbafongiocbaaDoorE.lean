/- What the pieces come to (plain), and that the reference's Buffered tells just this. -/
import Derived.Test.YtgjbafongiocbaaDoorD
namespace Go.Proofs.YtgjbafongiocbaaDoor
open Go.RowKit

/-- One piece: cut where it says so, then its data. -/
def bufStep (out : List Value) (p : Pc) : Option (List Value) :=
  if p.cut then (if 0 ≤ p.pos ∧ p.pos < (out.length : Int) then some (out.take p.pos.toNat ++ p.xs) else none) else some (out ++ p.xs)
def buf : List Value → List Pc → Option (List Value)
  | out, [] => some out
  | out, p :: ps => (bufStep out p).bind fun o => buf o ps

theorem buf_append (l r : List Pc) : ∀ out, buf out (l ++ r) = (buf out l).bind fun o => buf o r := by
  induction l with
  | nil => intro out; rfl
  | cons p l ih =>
    intro out
    simp only [List.cons_append, buf]
    cases bufStep out p with
    | none => rfl
    | some o => simp [ih]

theorem buf_snoc (ps : List Pc) (k : Nat) (p : Pc) (h : ps[k]? = some p) (out : List Value) : buf out (ps.take (k + 1)) = (buf out (ps.take k)).bind fun o => bufStep o p := by
  obtain ⟨hk, rfl⟩ := List.getElem?_eq_some_iff.1 h
  rw [List.take_succ_eq_append_getElem hk, buf_append]
  congr 1
  funext o
  simp only [buf]
  cases bufStep o ps[k] <;> rfl

theorem buf_u8 : ∀ (ps : List Pc) (out out' : List Value), (∀ u ∈ out, ∃ x : Int, u = .int .u8 x) → (∀ p ∈ ps, ∀ u ∈ p.xs, ∃ x : Int, u = .int .u8 x) → buf out ps = some out' → ∀ u ∈ out', ∃ x : Int, u = .int .u8 x
  | [], out, out', h, _, e => by
    injection e with e
    subst e
    exact h
  | p :: ps, out, out', h, hp, e => by
    simp only [buf, Option.bind_eq_some_iff] at e
    obtain ⟨o, ho, e⟩ := e
    refine buf_u8 ps o out' ?_ (fun q hq => hp q (List.mem_cons_of_mem _ hq)) e
    have h0 := hp p List.mem_cons_self
    unfold bufStep at ho
    split at ho
    · split at ho
      · injection ho with ho
        subst ho
        intro u hu
        rcases List.mem_append.1 hu with hu | hu
        · exact h u (List.mem_of_mem_take hu)
        · exact h0 u hu
      · cases ho
    · injection ho with ho
      subst ho
      intro u hu
      rcases List.mem_append.1 hu with hu | hu
      · exact h u hu
      · exact h0 u hu

theorem step_plain {p : Pc} {out : List Value} (h : p.cut = false) : bufStep out p = some (out ++ p.xs) := by unfold bufStep; rw [h]; rfl
theorem step_cut {p : Pc} {out : List Value} {q : Nat} (h : p.cut = true) (hq : p.pos = q) (hl : q < out.length) : bufStep out p = some (out.take q ++ p.xs) := by
  unfold bufStep
  rw [if_pos h, if_pos ⟨by omega, by omega⟩, hq]
  simp
theorem step_not {p : Pc} {out : List Value} (h : p.cut = true) (hl : p.pos < 0 ∨ (out.length : Int) ≤ p.pos) : bufStep out p = none := by
  unfold bufStep
  rw [if_pos h, if_neg (by omega)]

theorem buf_none_of (ps : List Pc) (k : Nat) (out : List Value) (h : buf out (ps.take k) = none) : buf out ps = none := by
  conv => lhs; rw [← List.take_append_drop k ps]
  rw [buf_append, h]
  rfl

theorem buf_none_at {ps : List Pc} {k : Nat} {p : Pc} {out : List Value} (hp : ps[k]? = some p) (hb : buf [] (ps.take k) = some out) (h : bufStep out p = none) : buf [] ps = none := by
  refine buf_none_of ps (k + 1) [] ?_
  rw [buf_snoc ps k p hp, hb]
  exact h

theorem own_form {w : World} {base : Nat} {e : TypeId} {v : Value} {n : Nat} {xs : List Value} (h : w.ownsRow base e 1 v n xs) : ∃ A c, v = .slice A n c := by
  rcases h.2 with ⟨rfl, rfl⟩ | ⟨g, cap, cur, rfl, _⟩
  · exact ⟨none, 0, rfl⟩
  · exact ⟨_, cap, rfl⟩

theorem own_cut {w : World} {base : Nat} {e : TypeId} {A : Option Addr} {n c : Nat} {xs : List Value} (h : w.ownsRow base e 1 (.slice A n c) n xs) {k : Nat} (hk : k < n) :
    ∃ g, A = some ⟨g, 0, none⟩ ∧ n ≤ c ∧ c ≤ maxLen ∧ w.ownsRow base e 1 (.slice (some ⟨g, 0, none⟩) k c) k (xs.take k) := by
  rcases h.2 with ⟨_, rfl⟩ | ⟨g, cap, cur, hv, hb, hh, hn, hm, hs, ht⟩
  · omega
  · injection hv with hA _ hc
    subst hA hc
    refine ⟨g, rfl, hn, hm, ?_, .inr ⟨g, c, cur, rfl, hb, hh, by omega, hm, hs, ?_⟩⟩
    · have := h.1; rw [List.length_take]; omega
    · rw [← ht, List.take_take]; congr 1; omega

theorem own_base {w : World} {base base' : Nat} {e : TypeId} {size n : Nat} {v : Value} {xs : List Value} (h : w.ownsRow base e size v n xs) (hb : base' ≤ base) : w.ownsRow base' e size v n xs := by
  refine ⟨h.1, ?_⟩
  rcases h.2 with h2 | ⟨g, cap, cur, hv, hg, r⟩
  · exact .inl h2
  · exact .inr ⟨g, cap, cur, hv, by omega, r⟩

theorem join2 (A1 A2 : Option Addr) (n1 c1 n2 c2 : Nat) (xs1 xs2 : List Value) (o : Obj) (w : World) (h1 : Reads w w.heap.size 1 A1 n1 xs1) (h2 : Reads w w.heap.size 1 A2 n2 xs2)
    (k1 : ∀ u ∈ xs1, u.oneCell' = true) (k2 : ∀ u ∈ xs2, u.oneCell' = true) (hn : xs1.length + xs2.length ≤ 1099511627776) :
    Calls Tryd.prog 10 #[.slice (some ⟨w.heap.size + 1, 0, none⟩) 2 2] ((w.alloc o).alloc (.cells #[.slice A1 n1 c1, .slice A2 n2 c2] 24))
      fun e w' => ∃ v, e = .returned v ∧ w'.ownsRow w.heap.size 5 1 v (xs1 ++ xs2).length (xs1 ++ xs2) ∧ w.grownBy w' none := by
  have hz : ((w.alloc o).alloc (.cells #[.slice A1 n1 c1, .slice A2 n2 c2] 24)).heap.size = w.heap.size + 2 := by simp
  have hfl : flat [⟨A1, n1, c1, xs1⟩, ⟨A2, n2, c2, xs2⟩] = xs1 ++ xs2 := by simp [flat]
  have hc := join_any (some ⟨w.heap.size + 1, 0, none⟩) 2 2 [⟨A1, n1, c1, xs1⟩, ⟨A2, n2, c2, xs2⟩] ((w.alloc o).alloc (.cells #[.slice A1 n1 c1, .slice A2 n2 c2] 24)) ?_ ?_ ?_ (by omega) (by rw [hfl, List.length_append]; exact hn)
  · rw [hfl] at hc
    refine hc.mono fun e w' ⟨v, he, ho, hg⟩ => ⟨v, he, own_base ho (by omega), ?_⟩
    refine ⟨hg.os, hg.tape, hg.output, by have := hg.size; omega, fun k hk hne => ?_⟩
    rw [hg.block k (by omega) hne, Below.heap_alloc _ _ _ (by simp; omega), Below.heap_alloc _ _ _ hk]
  · refine ⟨by simp, fun _ => ⟨_, rfl, by simp, fun j u hu => ?_⟩⟩
    have hB : Blk ((w.alloc o).alloc (.cells #[.slice A1 n1 c1, .slice A2 n2 c2] 24)) (w.heap.size + 1) 24 #[.slice A1 n1 c1, .slice A2 n2 c2] := by
      have := Blk.new (w.alloc o) 24 #[.slice A1 n1 c1, .slice A2 n2 c2]
      simpa using this
    match j, hu with
    | 0, hu =>
      have e : Value.slice A1 n1 c1 = u := by simpa [It.val] using hu
      rw [← e]
      exact hB.cell 0
    | 1, hu =>
      have e : Value.slice A2 n2 c2 = u := by simpa [It.val] using hu
      rw [← e]
      exact hB.cell 1
  · intro i hi
    simp only [List.mem_cons, List.not_mem_nil, or_false] at hi
    rcases hi with rfl | rfl
    · exact ((h1.alloc (Nat.le_refl _) o).alloc (by simp) _).more (by simp; omega)
    · exact ((h2.alloc (Nat.le_refl _) o).alloc (by simp) _).more (by simp; omega)
  · intro i hi
    simp only [List.mem_cons, List.not_mem_nil, or_false] at hi
    rcases hi with rfl | rfl
    · exact k1
    · exact k2

theorem oneCell_u8 {l : List Value} (h : ∀ u ∈ l, ∃ x : Int, u = .int .u8 x) : ∀ u ∈ l, u.oneCell' = true := by
  intro u hu
  obtain ⟨x, rfl⟩ := h u hu
  rfl

theorem buffered_any (P : Option Addr) (ps : List Pc) (c : Nat) (w : World) (h : Pieces w w.heap.size P ps) (hm : ps.length ≤ 2147483647) (hf : ∀ p ∈ ps, p.n ≤ 300) :
    Calls Tryd.prog 6 #[.slice P ps.length c] w fun e w' => w.grownBy w' none ∧
      ((buf [] ps = none ∧ e = .returned (.tuple #[.slice none 0 0, .bool false])) ∨ ∃ out v, buf [] ps = some out ∧ out.length ≤ 300 * ps.length ∧ e = .returned (.tuple #[v, .bool true]) ∧ w'.ownsRow w.heap.size 5 1 v out.length out) := by
  go_enter Tryd.func6, Tryd.ntmps6
  go_wp2_with fail
  go_loopw [4, 10] (fun v i wr => ∃ (k : Nat) (out : List Value), k ≤ ps.length ∧ i = .int .i64 k ∧ w.grownBy wr none ∧ wr.ownsRow w.heap.size 5 1 v out.length out ∧ out.length ≤ 300 * k ∧ buf [] (ps.take k) = some out) (fun _ i _ => ps.length - (intOf i).toNat)
  case atStart => exact ⟨0, [], by omega, rfl, World.grownBy_alloc w _ none, by simpa using World.ownsRow_made w #[] 0 (Nat.le_refl _) (Nat.zero_le _) rfl, by simp, rfl⟩
  case round =>
    obtain ⟨k, out, hk, rfl, hg, hown, hol, hbuf⟩ := hrel
    have HBUF := Lib.hid hbuf
    clear hbuf
    obtain ⟨A, co, rfl⟩ := own_form hown
    by_cases hlt : k < ps.length
    · obtain ⟨b, off, rfl, hb, hcs⟩ := h.here (by omega)
      obtain ⟨p, hp⟩ : ∃ p, ps[k]? = some p := ⟨ps[k], List.getElem?_eq_getElem hlt⟩
      obtain ⟨c0, c1, c2⟩ := hcs k p hp
      have c0' : wr.cell? ⟨b, off + k * 3, none⟩ = some (.slice p.A p.n p.c) := hg.cell c0 (by simp)
      have c1' := hg.cell c1 (by simp)
      have c2' := hg.cell c2 (by simp)
      have HP := Lib.hid hp
      have hpm := List.mem_of_getElem? hp
      have hpn := hf p hpm
      obtain ⟨hR, _, hu8⟩ := h.each p hpm
      clear hp c0 c1 c2 hcs
      have hor := Reads.of_own hown
      have hRr : Reads wr wr.heap.size 1 p.A p.n p.xs := (hR.keep fun a ha => World.cell?_of_block (hg.block a.block ha (by simp))).more hg.size
      have ho1 : ∀ u ∈ out, u.oneCell' = true := oneCell_u8 (buf_u8 (ps.take k) [] out (by simp) (fun q hq => (h.each q (List.mem_of_mem_take hq)).2.2) HBUF.out)
      have hxl : p.xs.length = p.n := by have := hR.1; omega
      have HXL := Lib.hid hxl
      clear hxl
      cases hcut : p.cut
      · rw [hcut] at c1'
        have HC := Lib.hid hcut
        clear hcut
        go_wp2_with fail
        refine (join2 A p.A out.length co p.n p.c out p.xs _ wr hor hRr ho1 (oneCell_u8 hu8) (by have := HXL.out; omega)).mono ?_
        rintro e w1 ⟨v1, rfl, hown1, hg1⟩
        go_wp2
        go_roundw
        case rel => exact ⟨k + 1, out ++ p.xs, by omega, by go_num, grown_trans hg hg1 (by simp), own_base hown1 hg.size, by rw [List.length_append]; have := HXL.out; omega, by rw [buf_snoc ps k p HP.out, HBUF.out]; exact step_plain HC.out⟩
        case measure => simp [intOf]; omega
      · rw [hcut] at c1'
        have HC := Lib.hid hcut
        clear hcut
        by_cases hneg : p.pos < 0
        · go_wp2_with fail
          go_ret2
          exact ⟨grown_trans hg (World.grownBy_alloc wr _ none) (by simp), .inl ⟨buf_none_at HP.out HBUF.out (step_not HC.out (.inl hneg)), rfl⟩⟩
        · by_cases hge : (out.length : Int) ≤ p.pos
          · go_wp2_with fail
            go_ret2
            exact ⟨grown_trans hg (World.grownBy_alloc wr _ none) (by simp), .inl ⟨buf_none_at HP.out HBUF.out (step_not HC.out (.inr hge)), rfl⟩⟩
          · obtain ⟨q, hq⟩ : ∃ q : Nat, p.pos = q := ⟨p.pos.toNat, by omega⟩
            rw [hq] at c2' hneg hge
            have HQ := Lib.hid hq
            clear hq
            have hql : q < out.length := by omega
            obtain ⟨g, rfl, hnc, hcm, hcutown⟩ := own_cut hown hql
            have hco : co ≤ 9223372036854775807 := by unfold maxLen at hcm; omega
            have hor' := Reads.of_own hcutown
            have hlt' : (out.take q).length ≤ q := List.length_take_le _ _
            clear hown hor
            go_wp2_with fail
            refine (join2 (some ⟨g, 0, none⟩) p.A q co p.n p.c (out.take q) p.xs _ wr hor' hRr (fun u hu => ho1 u (List.mem_of_mem_take hu)) (oneCell_u8 hu8) (by have := HXL.out; omega)).mono ?_
            rintro e w1 ⟨v1, rfl, hown1, hg1⟩
            go_wp2
            go_roundw
            case rel => exact ⟨k + 1, out.take q ++ p.xs, by omega, by go_num, grown_trans hg hg1 (by simp), own_base hown1 hg.size, by rw [List.length_append]; have := HXL.out; omega, by rw [buf_snoc ps k p HP.out, HBUF.out]; exact step_cut HC.out HQ.out hql⟩
            case measure => simp [intOf]; omega
    · go_wp2
      go_ret2
      have hke : ps.take k = ps := List.take_of_length_le (by omega)
      refine ⟨hg, .inr ⟨out, _, ?_, by omega, rfl, hown⟩⟩
      rw [← hke]; exact HBUF.out
end Go.Proofs.YtgjbafongiocbaaDoor
