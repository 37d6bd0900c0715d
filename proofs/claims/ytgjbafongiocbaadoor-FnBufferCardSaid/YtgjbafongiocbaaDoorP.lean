/- The thin package's script over a buffer: a piece is written; the bytes from a place on are read. -/
import Derived.Test.YtgjbafongiocbaaDoorO
import Derived.LaidEql
namespace Go.Proofs.YtgjbafongiocbaaDoor
open Go.RowKit

def cutsOf (ps : List Pc) : Nat := (ps.filter Pc.cut).length
theorem cutsOf_snoc (ps : List Pc) (k : Nat) (p : Pc) (h : ps[k]? = some p) : cutsOf (ps.take (k + 1)) = cutsOf (ps.take k) + (if p.cut then 1 else 0) := by
  obtain ⟨hk, rfl⟩ := List.getElem?_eq_some_iff.1 h
  unfold cutsOf
  rw [List.take_succ_eq_append_getElem hk, List.filter_append, List.length_append]
  cases h : ps[k].cut <;> simp [h]
theorem cutsOf_take_le (ps : List Pc) (k : Nat) : cutsOf (ps.take k) ≤ cutsOf ps := by
  unfold cutsOf
  exact (List.Sublist.filter _ (List.take_sublist k ps)).length_le

def room (c : Nat) : Nat := 72000 * 2 ^ c
theorem room_succ (c : Nat) : room (c + 1) = 2 * room c := by unfold room; rw [Nat.pow_succ]; omega
theorem room_le (c : Nat) (h : c ≤ 8) : 72000 ≤ room c ∧ room c ≤ 20000000 := by
  have : ∀ c : Fin 9, 72000 ≤ room c.val ∧ room c.val ≤ 20000000 := by decide
  exact this ⟨c, by omega⟩

theorem buf_step {ps : List Pc} {k : Nat} {p : Pc} {out due : List Value} (hp : ps[k]? = some p) (hb : buf [] (ps.take k) = some out) (hd : buf [] ps = some due) : ∃ o, bufStep out p = some o ∧ buf [] (ps.take (k + 1)) = some o := by
  cases h : bufStep out p with
  | none => rw [buf_none_at hp hb h] at hd; cases hd
  | some o => exact ⟨o, rfl, by rw [buf_snoc ps k p hp, hb]; exact h⟩

theorem step_len {p : Pc} {out o : List Value} (h : bufStep out p = some o) : o.length ≤ out.length + p.xs.length := by
  unfold bufStep at h
  split at h
  · split at h
    · injection h with h
      subst h
      rw [List.length_append, List.length_take]; omega
    · cases h
  · injection h with h
    subst h
    rw [List.length_append]; omega

theorem step_cases {p : Pc} {out o : List Value} (h : bufStep out p = some o) : (p.cut = false ∧ o = out ++ p.xs) ∨ (p.cut = true ∧ ∃ q : Nat, p.pos = q ∧ q < out.length ∧ o = out.take q ++ p.xs) := by
  unfold bufStep at h
  cases hc : p.cut with
  | false => rw [hc] at h; injection h with h; exact .inl ⟨rfl, h.symm⟩
  | true =>
    rw [hc, if_pos rfl] at h
    split at h
    · rename_i hq
      injection h with h
      exact .inr ⟨rfl, p.pos.toNat, by omega, by omega, h.symm⟩
    · cases h

/-- Own data, written. -/
theorem own_then_write {w1 : World} {base B M : Nat} {bs xs : List Value} {n : Nat} (h : PB w1 base B M bs) (hu : ∀ u ∈ xs, u.oneCell' = true) (hM : 72000 ≤ M) (hM2 : M ≤ 20000000) (hlen : bs.length + xs.length ≤ 18000)
    {w2 : World} {v : Value} (hown : w2.ownsRow w1.heap.size 5 1 v n xs) (hg : w1.grownBy w2 none) :
    Calls Tryd.prog 13 #[.pointer (some ⟨B, 0, none⟩), v] w2 (Wrote base B M bs xs w2) := by
  obtain ⟨A, c, rfl⟩ := own_form hown
  have hr := Reads.of_own hown
  rcases hown.2 with ⟨hv, hn0⟩ | ⟨g, cap, cur, hv, hbg, hh, hnc, hcm, _, _⟩
  · injection hv with hA _ hc
    subst hA hc hn0
    exact write_any (D := w1.heap.size) (h.beside hg (Nat.le_refl _)) none 0 0 hr hu (by simp) (Nat.le_refl _) (by unfold maxLen; omega) hM hM2 hlen
  · injection hv with hA _ hc
    subst hA hc
    refine write_any (D := g) (h.beside hg hbg) _ n c hr hu (fun ad e => ?_) hnc hcm hM hM2 hlen
    injection e with e
    subst e
    exact ⟨rfl, cur, hh⟩

/-- The loop over the pieces: k are done. -/
def LS (w0 : World) (B : Nat) (ps : List Pc) (i : Value) (wr : World) : Prop :=
  ∃ (k : Nat) (out : List Value), i = .int .i64 k ∧ k ≤ ps.length ∧ buf [] (ps.take k) = some out ∧ out.length ≤ 300 * k ∧ PB wr w0.heap.size B (room (cutsOf (ps.take k))) out ∧ Below w0.heap.size w0 wr

theorem buf_by_reader {w2 wr : World} {base B pa pc next R i s : Nat} {qs : List Pg} (hb2 : Buf w2 base B pa pc qs next) (hR2 : IsReader w2 R B i s) (ho3 : Only (fun k => k = R) w2 wr) : Buf wr base B pa pc qs next := by
  obtain ⟨cpa, hbpa, _⟩ := own_blk hb2.row
  refine hb2.only ho3 (fun e => hb2.blk.ne_ hR2 (by decide) e) (fun e => hbpa.ne_ hR2 (by decide) e) (fun x hx => ⟨fun e => (hb2.each x hx).blk.ne_ hR2 (by decide) e, fun e => ?_⟩)
  obtain ⟨cd, hcd, _⟩ := (hb2.each x hx).cur
  exact hcd.ne_ hR2 (by decide) e

/-- The loop that reads on: all up to 'pos' has been read, at most k rounds are to come. -/
def LS2 (w2 : World) (due : List Value) (fr B R : Nat) (qs : List Pg) (k : Nat) (v : Value) (wr : World) : Prop :=
  ∃ pos i s : Nat, fr ≤ pos ∧ pos ≤ due.length ∧ wr.ownsRow w2.heap.size 5 1 v (pos - fr) ((due.drop fr).take (pos - fr)) ∧ IsReader wr R B i s ∧ Stands qs i s pos ∧ Only (fun k => k = R) w2 wr ∧ due.length - pos ≤ k

theorem comp61 : (Tryd.prog.info? 61).map (·.comparable) = some true := by kernel_rfl
theorem some78 : (Tryd.prog.info? 78).isSome = true := by kernel_rfl

theorem neq_same (ea : Addr) (w : World) : (binOp .neq 41 (.iface 61 (.pointer (some ea))) (.iface 61 (.pointer (some ea)))).run Tryd.prog w = .ok (.bool false) w := by
  obtain ⟨i, hi⟩ := Option.isSome_iff_exists.1 some78
  have hc := comp61
  cases hj : Tryd.prog.info? 61 with
  | none => rw [hj] at hc; cases hc
  | some j =>
    rw [hj] at hc
    simp only [Option.map_some, Option.some.injEq] at hc
    simp only [binOp]
    simp [Op.equal, Op.maxDepth, run_equalIn_iface_ptr_same w 9998 ea Tryd.underlying41 Tryd.underlying61 hj hc hi]

theorem rest_more {due xs : List Value} {fr pos n : Nat} (h1 : fr ≤ pos) (hx : xs = (due.drop pos).take n) : (due.drop fr).take (pos - fr) ++ xs = (due.drop fr).take (pos + n - fr) := by
  rw [hx, show pos + n - fr = (pos - fr) + n from by omega, List.take_add, List.drop_drop, show fr + (pos - fr) = pos from by omega]

def RanTo (w0 : World) (due : List Value) (fr : Nat) (e : Ending) (w' : World) : Prop :=
  ∃ va vr, e = .returned (.tuple #[va, .int .i64 due.length, vr]) ∧ w'.ownsRow w0.heap.size 5 1 va due.length due ∧ w'.ownsRow w0.heap.size 5 1 vr (due.length - fr) (due.drop fr) ∧ w0.grownBy w' none

set_option maxRecDepth 100000 in
set_option maxHeartbeats 4000000 in
theorem run_any {w0 : World} (P : Option Addr) (ps : List Pc) (c page size fr : Nat) (due : List Value) (h : Pieces w0 w0.heap.size P ps) (hm : ps.length ≤ 60) (hf : ∀ p ∈ ps, p.n ≤ 300) (hcut : cutsOf ps ≤ 8) (hd : buf [] ps = some due)
    (hp1 : 0 < page) (hp2 : page ≤ 1000) (hs1 : 0 < size) (hs2 : size ≤ 1000) (hfr : fr < due.length) {ea : Addr} (hE : w0.cell? ⟨0, 0, none⟩ = some (.iface 61 (.pointer (some ea)))) :
    Calls Tryd.prog 7 #[.int .i64 page, .slice P ps.length c, .int .i64 fr, .int .i64 size] w0 (RanTo w0 due fr) := by
  have hb0 := World.block_lt_of_cell? w0 _ hE
  have HD := Lib.hid hd
  have HF := Lib.hid hf
  clear hd hf
  go_enter Tryd.func7, Tryd.ntmps7
  go_wp2_with fail
  refine (pb_new w0 page hp1 hp2).mono ?_
  rintro e w1 ⟨B, rfl, hpb, hg1⟩
  go_wp2_with fail
  go_loopw [23] (fun i wr => LS w0 B ps i wr) (fun i _ => ps.length - (intOf i).toNat)
  case atStart => exact ⟨0, [], rfl, Nat.zero_le _, rfl, Nat.le_refl _, by simpa [room, cutsOf] using hpb, ⟨hg1.os, hg1.tape, hg1.output, hg1.size, fun k hk => hg1.block k hk (by simp)⟩⟩
  case round =>
    obtain ⟨k, out, rfl, hk, hbuf, hol, hpbk, hbel⟩ := hrel
    have HBUF := Lib.hid hbuf
    clear hbuf hpb hg1
    by_cases hlt : k < ps.length
    · obtain ⟨b, off, rfl, hb, hcs⟩ := h.here (by omega)
      obtain ⟨p, hp⟩ : ∃ p, ps[k]? = some p := ⟨ps[k], List.getElem?_eq_getElem hlt⟩
      obtain ⟨c0, c1, c2⟩ := hcs k p hp
      have c0' : wr.cell? ⟨b, off + k * 3, none⟩ = some (.slice p.A p.n p.c) := (hbel.cell hb).trans c0
      have c1' := (hbel.cell (p := ⟨b, off + k * 3 + 1, none⟩) hb).trans c1
      have c2' := (hbel.cell (p := ⟨b, off + k * 3 + 2, none⟩) hb).trans c2
      have hpm := List.mem_of_getElem? hp
      have hpn := HF.out p hpm
      obtain ⟨hR, _, hu8⟩ := h.each p hpm
      obtain ⟨o, ho, hbo⟩ := buf_step hp HBUF.out HD.out
      have hxl : p.xs.length = p.n := by have := hR.1; omega
      have hcl := cutsOf_take_le ps (k + 1)
      have hcs' := cutsOf_snoc ps k p hp
      have hsl := step_len ho
      have HCS := Lib.hid hcs'
      have HXL := Lib.hid hxl
      have HBO := Lib.hid hbo
      have HP := Lib.hid hp
      have HO := Lib.hid ho
      have hou : ∀ u ∈ p.xs, u.oneCell' = true := oneCell_u8 hu8
      clear hp c0 c1 c2 hcs hcs' hxl hbo ho
      have hRr : Reads wr wr.heap.size 1 p.A p.n p.xs := (hR.keep fun a ha => hbel.cell ha).more hbel.size
      have hk60 : k < 60 := by omega
      have hck := cutsOf_take_le ps k
      rcases step_cases HO.out with ⟨hcu, hoe⟩ | ⟨hcu, q, hpq, hql, hoe⟩
      · rw [hcu] at c1'
        have HC := Lib.hid hcu
        have HOE := Lib.hid hoe
        have hrm := room_le (cutsOf (ps.take k)) (by omega)
        clear hcu hoe h
        go_wp2_with fail
        refine (own_any p.A p.n p.c p.xs (wr.alloc (.cells #[.slice p.A p.n p.c, .bool false, .int .i64 p.pos] 26)) ((hRr.alloc (Nat.le_refl _) _).more (by simp)) hou (by omega)).mono ?_
        rintro e w3 ⟨v3, rfl, hown3, hg3⟩
        go_wp2_with fail
        refine (own_then_write (hpbk.grown (World.grownBy_alloc wr _ none)) hou hrm.1 hrm.2 (by have := HXL.out; omega) hown3 hg3).mono ?_
        rintro e w4 ⟨rfl, hpb4, hk4⟩
        have hbel4 : Below w0.heap.size w0 w4 := ((hbel.alloc hbel.size _).grown hg3 (by simp; have := hbel.size; omega) (by simp)).trans hk4.below
        clear hown3 hg3 hk4
        go_wp2_with fail
        go_roundw
        case rel => exact ⟨k + 1, o, by go_num, by omega, HBO.out, by have := HXL.out; omega, by rw [HCS.out, HC.out, HOE.out]; simp only [Bool.false_eq_true, if_false, Nat.add_zero]; exact hpb4, hbel4⟩
        case measure => simp [intOf]; omega
      · rw [hcu] at c1'
        rw [hpq] at c2'
        have HC := Lib.hid hcu
        have HOE := Lib.hid hoe
        have HPQ := Lib.hid hpq
        have hrm2 : 72000 ≤ 2 * room (cutsOf (ps.take k)) ∧ 2 * room (cutsOf (ps.take k)) ≤ 20000000 := by
          have h3 := HCS.out
          rw [HC.out, if_pos rfl] at h3
          have h4 := room_le (cutsOf (ps.take k) + 1) (by omega)
          rw [room_succ] at h4
          exact h4
        clear hcu hoe hpq h
        go_wp2_with fail
        refine (pb_cut (hpbk.grown (World.grownBy_alloc wr _ none)) q hql (by omega)).mono ?_
        rintro e w2 ⟨rfl, hpb2, hk2⟩
        have hblk2 : Blk w2 wr.heap.size 26 #[.slice p.A p.n p.c, .bool true, .int .i64 q] := hk2.other _ _ _ (Blk.new wr 26 _) rfl
        have a0 : w2.cell? ⟨wr.heap.size, 0, none⟩ = some (.slice p.A p.n p.c) := hblk2.cell 0
        have hbel2 : Below w0.heap.size w0 w2 := (hbel.alloc hbel.size _).trans hk2.below
        have hRr2 : Reads w2 w2.heap.size 1 p.A p.n p.xs := (hR.keep fun a ha => hbel2.cell ha).more hbel2.size
        clear hk2
        go_wp2_with fail
        refine (own_any p.A p.n p.c p.xs w2 hRr2 hou (by omega)).mono ?_
        rintro e w3 ⟨v3, rfl, hown3, hg3⟩
        go_wp2_with fail
        refine (own_then_write hpb2 hou hrm2.1 hrm2.2 (by rw [List.length_take]; have := HXL.out; omega) hown3 hg3).mono ?_
        rintro e w4 ⟨rfl, hpb4, hk4⟩
        have hbel4 : Below w0.heap.size w0 w4 := (hbel2.grown hg3 hbel2.size (by simp)).trans hk4.below
        clear hown3 hg3 hk4
        go_wp2_with fail
        go_roundw
        case rel => exact ⟨k + 1, o, by go_num, by omega, HBO.out, by have := HXL.out; omega, by rw [HCS.out, HC.out, HOE.out]; simp only [if_true, room_succ]; exact hpb4, hbel4⟩
        case measure => simp [intOf]; omega
    · have hke : ps.take k = ps := List.take_of_length_le (by omega)
      have h1 := HBUF.out
      rw [hke, HD.out] at h1
      injection h1 with h1
      subst h1
      obtain ⟨pa, pc, qs, l, next, hb, hqf, hqb, _, _, _⟩ := hpbk
      have hdl : due.length ≤ 18000 := by omega
      have hqp := full_len hb hqf
      have hu8 : ∀ u ∈ due, u.oneCell' = true := oneCell_u8 (buf_u8 ps [] due (by simp) (fun q hq => (h.each q hq).2.2) HD.out)
      have HQB := Lib.hid hqb
      have HQF := Lib.hid hqf
      have HU8 := Lib.hid hu8
      clear hke hqb hqf hu8 h
      go_wp2_with fail
      refine (reader_any hb fr (by rw [HQB.out]; exact hfr) (by rw [HQB.out]; omega) (by simp; rw [HQB.out] at hqp; omega)).mono ?_
      rintro e w2 ⟨R, i, s, rfl, hRb, hR2, hst, ho2⟩
      have hb2 := hb.only ho2 id id (fun _ _ => ⟨id, id⟩)
      have hbel2 : Below w0.heap.size w0 w2 := hbel.trans (ho2.below hbel.size (fun _ h => h.elim))
      have HST := Lib.hid hst
      have hRw : w0.heap.size ≤ R := Nat.le_trans hbel.size hRb
      clear hst ho2 hb hbel hRb
      have hmk := fun W => make_bytes size size (Nat.le_refl _) (by omega) W
      have hneq := fun W => neq_same ea W
      have HMK := Lib.hid hmk
      have HNEQ := Lib.hid hneq
      obtain ⟨i0, hi0, hz0, hz1, hz2⟩ := info_parts info5
      clear hmk hneq
      go_wp2_with fail
      go_loopg [15] (due.length) (fun k v wr => LS2 w2 due fr B R (qs ++ [l]) k v wr)
      case atStart => exact ⟨fr, i, s, Nat.le_refl _, by omega, by simpa using World.ownsRow_made w2 #[] 0 (Nat.le_refl _) (Nat.zero_le _) rfl, Blk.alloc hR2 _, HST.out, (Only.refl _ w2).alloc _, by omega⟩
      case round =>
        obtain ⟨pos, i, s, hfp, hpl, hown, hR3, hst, ho3, hgk⟩ := hrel
        have hbw := buf_by_reader hb2 hR2 ho3
        have hbelw : Below w0.heap.size w0 wr := hbel2.trans (ho3.below hbel2.size (fun k e => by rw [e]; exact hRw))
        have HSTP := Lib.hid hst
        clear hst
        have hmk := HMK.out
        have hzb : Blk (wr.alloc (.cells (zeros size) 5)) wr.heap.size 5 (zeros size).toList.toArray := by simpa using Blk.new wr 5 (zeros size)
        have hbelW := hbelw.alloc hbelw.size (.cells (zeros size) 5)
        have hcall := read_any (hbw.grown (World.grownBy_alloc wr (.cells (zeros size) 5) none)) HQF.out (by rw [HQB.out]; omega) (Blk.alloc hR3 (.cells (zeros size) 5)) HSTP.out hzb (by simp [zeros_size]) hs1 hs2 (fun p hp => by have := (hbw.lt.2.2 p hp).2; omega)
          (by rw [HQB.out]; exact HU8.out) ((hbelW.cell (p := ⟨0, 0, none⟩) hb0).trans hE) hb0 hRw hbelw.size
        rw [HQB.out] at hcall
        have HCALL := Lib.hid hcall
        clear hcall
        go_wp2_with fail
        refine HCALL.out.mono ?_
        rintro e w3 ⟨n, i', s', cur', he, hend, hnz, hst', hR4, hpb4, hcl4, hct4, ho4⟩
        have hown3 := own_only (hown.alloc (.cells (zeros size) 5)) ho4 (fun g hg => by
          have h3 := hown.lt g hg
          rintro (h4 | h4)
          · have := hR2.lt; omega
          · omega)
        have ho5 : Only (fun k => k = R) w2 w3 := ((ho3.alloc (.cells (zeros size) 5)).then_ ho4 (by rintro j (h4 | h4); exact .inl h4; exact .inr (by rw [h4]; exact ho3.size)))
        have hbel5 : Below w0.heap.size w0 w3 := hbel2.trans (ho5.below hbel2.size (fun k e => by rw [e]; exact hRw))
        have hE5 : w3.cell? ⟨0, 0, none⟩ = some (.iface 61 (.pointer (some ea))) := (hbel5.cell (p := ⟨0, 0, none⟩) hb0).trans hE
        have hpn : pos + n ≤ due.length := by have := stands_le hst'; rw [HQB.out] at this; exact this
        have hRd : Reads w3 w3.heap.size 1 (some ⟨wr.heap.size, 0, none⟩) n (cur'.take n) := by
          refine ⟨by rw [List.length_take]; omega, fun _ => ⟨_, rfl, hpb4.lt, fun j u hj => ?_⟩⟩
          rw [List.getElem?_take] at hj
          split at hj
          · rw [Addr.add_lit, Nat.zero_add]
            exact (hpb4.cell j).trans (by simpa using hj)
          · cases hj
        have hu3 : ∀ u ∈ cur'.take n, u.oneCell' = true := by
          rw [hct4]
          exact fun u hu => HU8.out u (List.mem_of_mem_drop (List.mem_of_mem_take hu))
        have hcurl : n ≤ size := hnz
        have HCT4 := Lib.hid hct4
        have HCL4 := Lib.hid hcl4
        have HEND4 := Lib.hid hend
        have HST4 := Lib.hid hst'
        have hmx : 1099511627776 ≤ maxLen := by unfold maxLen; omega
        clear hct4 hcl4 hend hst' hcurl ho4 HCALL hown hzb hR3
        by_cases hn0 : n = 0
        · rw [if_pos hn0] at he
          subst hn0
          subst he
          have hneq := HNEQ.out
          have hw2 : 0 < w2.heap.size := Nat.lt_of_lt_of_le hb0 hbel2.size
          go_wp2_with (at_builtin; refine wpList_append_any _ rfl (.tmp 51) (.tmp 54) _ rfl w2.heap.size 5 i0 _ 1 1 Tryd.underlying24 hi0 hz0 hz1 hz2 rfl (by omega) _ (pos - fr) ((due.drop fr).take (pos - fr)) rfl hown3 w3.heap.size _ 0 _ (cur'.take 0) rfl hRd hu3 (by omega) (by omega) ho5.size ?_; intro v' w4 hown4 hgrow4 _; have hE6 : w4.cell? ⟨0, 0, none⟩ = some (.iface 61 (.pointer (some ea))) := hgrow4.cell hE5 (fun e => by have := hown3.lt 0 e.symm; omega))
          have ho6 : Only (fun k => k = R) w2 w4 := ho5.grown hgrow4 (fun g hg => .inr (hown3.lt g hg).1)
          have hb4 := buf_by_reader hb2 hR2 ho6
          have hbel6 : Below w0.heap.size w0 w4 := hbel2.trans (ho6.below hbel2.size (fun k e => by rw [e]; exact hRw))
          have hpos : pos = due.length := by
            have h3 := HEND4.out
            omega
          have hrest := rest_more (n := 0) (xs := cur'.take 0) (due := due) hfp (by simp)
          have HREST := Lib.hid hrest
          have HOWN4 := Lib.hid hown4
          have HPOS := Lib.hid hpos
          clear hrest hown4 hgrow4 hown3 ho3 ho5 hRd hu3 hE5 hE6 hpos
          refine (bytes_any hb4 (by rw [HQB.out]; omega) (by rw [HQB.out]; exact HU8.out)).mono ?_
          rintro e w5 ⟨v5, rfl, hown5, ho7⟩
          obtain ⟨A5, c5, rfl⟩ := own_form hown5
          rw [HQB.out] at hown5
          have hrd5 := Reads.of_own hown5
          go_wp2_with fail
          rw [HQB.out]
          refine (own_any A5 due.length c5 due w5 hrd5 HU8.out (by omega)).mono ?_
          rintro e w6 ⟨v6, rfl, hown6, hg6⟩
          have hb6 := (hb4.only ho7 id id (fun _ _ => ⟨id, id⟩)).grown hg6
          have HOWN6 := Lib.hid hown6
          clear hown5 hown6
          go_wp2_with fail
          refine (len_any hb6).mono ?_
          rintro e w7 ⟨rfl, rfl⟩
          rw [HQB.out]
          go_wp2_with fail
          go_ret3
          refine ⟨v6, v', rfl, own_base HOWN6.out (Nat.le_trans hbel6.size ho7.size), ?_, ?_⟩
          · have h4 := HOWN4.out
            rw [HREST.out] at h4
            have e1 : pos - fr + 0 = due.length - fr := by rw [HPOS.out]; omega
            have e2 : (due.drop fr).take (pos + 0 - fr) = due.drop fr := List.take_of_length_le (by rw [List.length_drop, HPOS.out]; omega)
            rw [e1, e2] at h4
            exact own_base ((own_only h4 ho7 (fun _ _ => id)).kept hg6 (by cases v'.ownBlock <;> simp)) hbel2.size
          · have h5 := hbel6.trans (ho7.below hbel6.size (fun _ h => h.elim))
            have h6 : Below w0.heap.size w0 w6 := h5.grown hg6 h5.size (by simp)
            exact ⟨h6.os, h6.tape, h6.output, h6.size, fun k hk _ => h6.block k hk⟩
        · rw [if_neg hn0] at he
          subst he
          have hnb : ((n : Int) == 0) = false := by simp; omega
          go_wp2_with (at_builtin; refine wpList_append_any _ rfl (.tmp 51) (.tmp 54) _ rfl w2.heap.size 5 i0 _ 1 1 Tryd.underlying24 hi0 hz0 hz1 hz2 rfl (by omega) _ (pos - fr) ((due.drop fr).take (pos - fr)) rfl hown3 w3.heap.size _ n _ (cur'.take n) rfl hRd hu3 (by omega) (by omega) ho5.size ?_; intro v' w4 hown4 hgrow4 _)
          have hrest := rest_more (n := n) (xs := cur'.take n) (due := due) hfp HCT4.out
          rw [hrest, show pos - fr + n = pos + n - fr from by omega] at hown4
          go_roundg (due.length - (pos + n))
          case measure => omega
          case rel =>
            refine ⟨pos + n, i', s', by omega, hpn, hown4, Blk.grown hR4 hgrow4 (fun e => ?_), HST4.out, ho5.grown hgrow4 (fun g hg => .inr (hown3.lt g hg).1), Nat.le_refl _⟩
            have h3 := hown3.lt R e.symm
            have h4 := hR2.lt
            omega
end Go.Proofs.YtgjbafongiocbaaDoor
