/- A reader reads. -/
import Derived.Test.YtgjbafongiocbaaDoorN
namespace Go.Proofs.YtgjbafongiocbaaDoor
open Go.RowKit

/-- The loop that reads: t bytes have been read, at most k steps are to come. -/
def RS (w0 : World) (ps : List Pg) (bs : List Value) (B R pb q z k : Nat) (v : Value) (wr : World) : Prop :=
  ∃ (t i s : Nat) (cur : List Value), v = .int .i64 t ∧ t ≤ z ∧ Stands ps i s (q + t) ∧ IsReader wr R B i s ∧ Blk wr pb 5 cur.toArray ∧ cur.length = z ∧ cur.take t = (bs.drop q).take t ∧ Only (fun k => k = R ∨ k = pb) w0 wr ∧
    2 * (ps.length - i) + (if t < z then 1 else 0) ≤ k

def ReadTo (w0 : World) (ps : List Pg) (bs : List Value) (B R pb q z : Nat) (eof : Value) (e : Ending) (w' : World) : Prop :=
  ∃ (n i s : Nat) (cur : List Value), e = .returned (.tuple #[.int .i64 n, if n = 0 then eof else .nilIface]) ∧ (n = z ∨ q + n = bs.length) ∧ n ≤ z ∧ Stands ps i s (q + n) ∧ IsReader w' R B i s ∧ Blk w' pb 5 cur.toArray ∧ cur.length = z ∧ cur.take n = (bs.drop q).take n ∧ Only (fun k => k = R ∨ k = pb) w0 w'

theorem stands_le {ps : List Pg} {i s q : Nat} (h : Stands ps i s q) : q ≤ (bytesOf ps).length := by
  obtain ⟨hi, hq, hp, h0⟩ := h
  rcases Nat.lt_or_ge i ps.length with hlt | hge
  · obtain ⟨p, hpi⟩ : ∃ p, ps[i]? = some p := ⟨ps[i], List.getElem?_eq_getElem hlt⟩
    have h1 := bytesOf_snoc ps i p hpi
    have h2 := bytesOf_take_le ps (i + 1)
    rw [h1, List.length_append] at h2
    have := (hp p hpi).1
    omega
  · have := h0 (by omega)
    have := bytesOf_take_le ps i
    omega

theorem buf_beside {w0 wr : World} {base B pa pc next R i s pb : Nat} {ps : List Pg} {cur : List Value} (h : Buf w0 base B pa pc ps next) (hR : IsReader w0 R B i s) (hpb : Blk w0 pb 5 cur.toArray) (hpd : ∀ p ∈ ps, p.d ≠ pb)
    (ho : Only (fun k => k = R ∨ k = pb) w0 wr) : Buf wr base B pa pc ps next := by
  obtain ⟨cpa, hbpa, _⟩ := own_blk h.row
  refine h.only ho ?_ ?_ (fun x hx => ⟨?_, ?_⟩)
  · rintro (hh | hh)
    · exact h.blk.ne_ hR (by decide) hh
    · exact h.blk.ne_ hpb (by decide) hh
  · rintro (hh | hh)
    · exact hbpa.ne_ hR (by decide) hh
    · exact hbpa.ne_ hpb (by decide) hh
  · rintro (hh | hh)
    · exact (h.each x hx).blk.ne_ hR (by decide) hh
    · exact (h.each x hx).blk.ne_ hpb (by decide) hh
  · obtain ⟨cd, hcd, _⟩ := (h.each x hx).cur
    rintro (hh | hh)
    · exact hcd.ne_ hR (by decide) hh
    · exact hpd x hx hh

/-- What is read next. -/
theorem read_data {ps : List Pg} {i s q t n : Nat} {p : Pg} (hp : ps[i]? = some p) (hs : s ≤ p.xs.length) (hq : (bytesOf (ps.take i)).length + s = q + t) (hn : n ≤ p.xs.length - s) :
    ((bytesOf ps).drop q).take (t + n) = ((bytesOf ps).drop q).take t ++ (p.xs.drop s).take n := by
  have h1 : bytesOf ps = bytesOf (ps.take i) ++ (p.xs ++ bytesOf (ps.drop (i + 1))) := by
    obtain ⟨hi, rfl⟩ := List.getElem?_eq_some_iff.1 hp
    have h1 := congrArg (fun l => l.flatMap Pg.xs) (List.take_append_drop i ps)
    simp only [List.flatMap_append, List.drop_eq_getElem_cons hi, List.flatMap_cons] at h1
    exact h1.symm
  rw [List.take_add, List.drop_drop, ← hq]
  congr 1
  rw [h1]
  generalize bytesOf (ps.take i) = x
  rw [List.drop_append, List.drop_eq_nil_of_le (by omega), List.nil_append, Nat.add_sub_cancel_left, List.drop_append_of_le_length hs, List.take_append_of_le_length (by rw [List.length_drop]; omega)]

theorem stands_stay {ps : List Pg} {i s q t n : Nat} {p : Pg} (h : Stands ps i s (q + t)) (hp : ps[i]? = some p) (hn : n ≤ p.xs.length - s) (hc : s + n < p.cap) : Stands ps i (s + n) (q + (t + n)) := by
  obtain ⟨h1, h2, h3, h4⟩ := h
  have hi := (List.getElem?_eq_some_iff.1 hp).1
  have := h3 p hp
  refine ⟨h1, by omega, fun p' hp' => ?_, fun hh => by omega⟩
  rw [hp] at hp'
  injection hp' with hp'
  subst hp'
  omega
theorem stands_on {w : World} {base B pa pc next : Nat} {ps : List Pg} {i s q t n : Nat} {p : Pg} (hb : Buf w base B pa pc ps next) (h : Stands ps i s (q + t)) (hp : ps[i]? = some p) (hn : n ≤ p.xs.length - s) (hc : p.cap ≤ s + n) : Stands ps (i + 1) 0 (q + (t + n)) := by
  obtain ⟨h1, h2, h3, h4⟩ := h
  have hi := (List.getElem?_eq_some_iff.1 hp).1
  have h5 := h3 p hp
  have h6 := (hb.each p (List.mem_of_getElem? hp)).le.1
  refine ⟨hi, ?_, fun p' hp' => ⟨Nat.zero_le _, (hb.each p' (List.mem_of_getElem? hp')).pos⟩, fun _ => rfl⟩
  rw [bytesOf_snoc ps i p hp, List.length_append]
  omega
theorem last_total {ps : List Pg} {l : Pg} {i s q t n z : Nat} {p : Pg} (h : Stands (ps ++ [l]) i s (q + t)) (hp : (ps ++ [l])[i]? = some p) (hn : n = Nat.min (p.xs.length - s) (z - t)) (ht : t ≤ z) (hi : i + 1 = (ps ++ [l]).length) :
    t + n = z ∨ q + (t + n) = (bytesOf (ps ++ [l])).length := by
  obtain ⟨h1, h2, h3, h4⟩ := h
  have h5 := h3 p hp
  have h6 := bytesOf_snoc (ps ++ [l]) i p hp
  rw [hi, List.take_length] at h6
  have h7 := congrArg List.length h6
  rw [List.length_append] at h7
  have h8 : Nat.min (p.xs.length - s) (z - t) = p.xs.length - s ∨ Nat.min (p.xs.length - s) (z - t) = z - t := by simp only [Nat.min_def]; split <;> simp
  omega
theorem not_last {ps : List Pg} {l : Pg} {i s t n z : Nat} {p : Pg} (hf : ∀ p ∈ ps, p.xs.length = p.cap) (hp : (ps ++ [l])[i]? = some p) (hn : n = Nat.min (p.xs.length - s) (z - t)) (ht : t ≤ z) (hi : i + 1 < (ps ++ [l]).length) (hc : s + n < p.cap) : t + n = z := by
  have hpm : p ∈ ps := by
    rw [List.getElem?_append_left (by simp at hi; omega)] at hp
    exact List.mem_of_getElem? hp
  have h1 := hf p hpm
  have h8 : Nat.min (p.xs.length - s) (z - t) = p.xs.length - s ∨ Nat.min (p.xs.length - s) (z - t) = z - t := by simp only [Nat.min_def]; split <;> simp
  omega

set_option maxRecDepth 100000 in
set_option maxHeartbeats 4000000 in
theorem read_any {w0 : World} {base B pa pc next : Nat} {ps : List Pg} {l : Pg} (h : Buf w0 base B pa pc (ps ++ [l]) next) (hf : ∀ p ∈ ps, p.xs.length = p.cap) (hl : (bytesOf (ps ++ [l])).length ≤ 1000000) {R i s q : Nat} (hR : IsReader w0 R B i s) (hst : Stands (ps ++ [l]) i s q)
    {pb z : Nat} {cur : List Value} (hpb : Blk w0 pb 5 cur.toArray) (hz : cur.length = z) (hz1 : 0 < z) (hz2 : z ≤ 1000) (hpd : ∀ p ∈ ps ++ [l], p.d ≠ pb) (hu : ∀ u ∈ bytesOf (ps ++ [l]), u.oneCell' = true)
    {ea : Addr} (hE : w0.cell? ⟨0, 0, none⟩ = some (.iface 61 (.pointer (some ea)))) (hb0 : 0 < base) (hRb : base ≤ R) (hpbb : base ≤ pb) :
    Calls Tryd.prog 16 #[.pointer (some ⟨R, 0, none⟩), .slice (some ⟨pb, 0, none⟩) z z] w0 (ReadTo w0 (ps ++ [l]) (bytesOf (ps ++ [l])) B R pb q z (.iface 61 (.pointer (some ea)))) := by
  obtain ⟨N, hN⟩ : ∃ N, N = (ps ++ [l]).length := ⟨_, rfl⟩
  have hfl := full_len h hf
  have hN6 : N ≤ 1000001 := by rw [hN, List.length_append]; simp only [List.length_singleton]; omega
  have hr0 : w0.cell? ⟨R, 0, none⟩ = some (.pointer (some ⟨B, 0, none⟩)) := hR.cell 0
  obtain ⟨c0, c1, c2⟩ := h.cell
  rw [← hN] at c0
  have HN := Lib.hid hN
  have HF := Lib.hid hf
  have HPD := Lib.hid hpd
  have HU := Lib.hid hu
  have HZ := Lib.hid hz
  have hR0 := Lib.hid hR
  have hpb0 := Lib.hid hpb
  have HST0 := Lib.hid hst
  clear hN hf hpd hu hz hR hpb hst
  go_enter Tryd.func16, Tryd.ntmps16
  go_wp2_with fail
  go_loopg [7] (2 * N + 2) (fun k v wr => RS w0 (ps ++ [l]) (bytesOf (ps ++ [l])) B R pb q z k v wr)
  case atStart =>
    refine ⟨0, i, s, cur, rfl, by omega, HST0.out, hR0.out, hpb0.out, HZ.out, by simp, Only.refl _ _, ?_⟩
    rw [← HN.out]
    split <;> omega
  case round =>
    obtain ⟨t, i, s, cur, rfl, ht, hst, hR', hpb', hcl, hct, ho, hme⟩ := hrel
    have HST := Lib.hid hst
    have HCL := Lib.hid hcl
    have HCT := Lib.hid hct
    have HME := Lib.hid hme
    have e0 : wr.cell? ⟨R, 0, none⟩ = some (.pointer (some ⟨B, 0, none⟩)) := hR'.cell 0
    have e1 : wr.cell? ⟨R, 1, none⟩ = some (.int .i64 i) := hR'.cell 1
    have e2 : wr.cell? ⟨R, 2, none⟩ = some (.int .i64 s) := hR'.cell 2
    have hiN : i ≤ N := by rw [HN.out]; exact hst.1
    clear hst hcl hct hme c0 c1 c2 hr0
    have hEr : wr.cell? ⟨0, 0, none⟩ = some (.iface 61 (.pointer (some ea))) := (World.cell?_of_block (w := w0) (a := ⟨0, 0, none⟩) (ho.block 0 (World.block_lt_of_cell? w0 _ hE) (by rintro (h | h) <;> omega))).trans hE
    by_cases hgo : i < N ∧ t < z
    · obtain ⟨hi, htz⟩ := hgo
      obtain ⟨p, hp⟩ : ∃ p, (ps ++ [l])[i]? = some p := ⟨(ps ++ [l])[i]'(by rw [← HN.out]; exact hi), List.getElem?_eq_getElem _⟩
      have hpm := List.mem_of_getElem? hp
      have hb := buf_beside h hR0.out hpb0.out HPD.out ho
      obtain ⟨d0, d1, d2, d3⟩ := hb.ptr hp
      obtain ⟨c0, _, _⟩ := hb.cell
      rw [← HN.out] at c0
      have hNc : N ≤ 9223372036854775807 := by omega
      have hcapm : p.cap ≤ 9223372036854775807 := by unfold maxLen at d3; omega
      obtain ⟨hs1, hs2⟩ := HST.out.2.2.1 p hp
      have hqt := HST.out.2.1
      have hgR : p.g ≠ R := (hb.each p hpm).blk.ne_ hR' (by decide)
      have hgpb : p.g ≠ pb := (hb.each p hpm).blk.ne_ hpb' (by decide)
      have hBR : B ≠ R := hb.blk.ne_ hR' (by decide)
      have hRpb : R ≠ pb := Blk.ne_ hR' hpb' (by decide)
      have hdata := (hb.each p hpm).data
      have HQT := Lib.hid hqt
      have HP := Lib.hid hp
      have HDATA := Lib.hid hdata
      obtain ⟨X, hX⟩ : ∃ X, X = p.xs.length := ⟨_, rfl⟩
      obtain ⟨C, hC⟩ : ∃ C, C = p.cap := ⟨_, rfl⟩
      rw [← hX, ← hC] at d1 d2
      rw [← hX] at hs1
      rw [← hC] at hs2 hcapm
      have HX := Lib.hid hX
      have HC := Lib.hid hC
      clear hX hC hqt hp hdata
      have hXs : C ≠ s := by omega
      have hzt : z ≠ t := by omega
      go_wp2_with fail
      go_quiet (fail)
      go_wp2_with fail
      refine forget (fun w' => Only (fun _ => False) wr w') ((Only.refl _ wr).drewN nq) ?_
      rintro w1 ho1
      have hR1 : IsReader w1 R B i s := Blk.only hR' ho1 id
      have hpb1 := hpb'.only ho1 id
      have hb1 := hb.only ho1 id id (fun _ _ => ⟨id, id⟩)
      have hoo : Only (fun k => k = R ∨ k = pb) w0 w1 := ho.trans (ho1.mono fun _ _ h => h.elim)
      have x1 : w1.cell? ⟨p.g, 0, none⟩ = some (.slice (some ⟨p.d, 0, none⟩) X C) := by rw [HX.out, HC.out]; exact (hb1.ptr HP.out).2.1
      have x2 : w1.cell? ⟨R, 2, none⟩ = some (.int .i64 s) := hR1.cell 2
      obtain ⟨n, hn⟩ : ∃ n, n = Nat.min (X - s) (z - t) := ⟨_, rfl⟩
      have hn1 : n ≤ X - s := by rw [hn]; exact Nat.min_le_left _ _
      have hn2 : n ≤ z - t := by rw [hn]; exact Nat.min_le_right _ _
      obtain ⟨cs, hcs⟩ : ∃ cs, cs = (p.xs.drop s).take n := ⟨_, rfl⟩
      have hcsl : cs.length = n := by rw [hcs, List.length_take, List.length_drop, ← HX.out]; omega
      have HK : Hid (∀ w2, w1.drew.grownBy w2 (some pb) → w2.cell? ⟨p.g, 0, none⟩ = some (.slice (some ⟨p.d, 0, none⟩) X C) ∧ w2.cell? ⟨R, 2, none⟩ = some (.int .i64 s)) :=
        fun w2 hg => ⟨hg.cell x1 (fun e => hgpb (Option.some.inj e)), hg.cell x2 (fun e => hRpb (Option.some.inj e))⟩
      have HCSM : Hid (cs.length = Nat.min (X - s) (z - t)) := by show _ = _; rw [hcsl, hn]
      have HPOS : Hid (0 < cs.length → (some ⟨pb, t, none⟩ : Option Addr) = some ⟨pb, t, none⟩ ∧ ∃ ad, (some ⟨p.d, s, none⟩ : Option Addr) = some ad ∧ ∀ j v, cs[j]? = some v → w1.drew.cell? (ad.add j) = some v) := by
        intro _
        refine ⟨rfl, _, rfl, fun j v hj => ?_⟩
        rw [hcs, List.getElem?_take] at hj
        split at hj
        · rw [List.getElem?_drop] at hj
          have h3 := ((hb1.each p hpm).data.cells (g := p.d) rfl) (s + j) v hj
          rw [Addr.add_lit, Nat.zero_add] at h3
          rw [Addr.add_lit]
          exact h3
        · cases hj
      have HFT : Hid (t + cs.length ≤ cur.length) := by show _ ≤ _; rw [hcsl, HCL.out]; omega
      have HU1 : Hid (∀ v ∈ cs, v.oneCell' = true) := fun v hv => HU.out v (by unfold bytesOf; exact List.mem_flatMap.2 ⟨p, hpm, by rw [hcs] at hv; exact List.mem_of_mem_drop (List.mem_of_mem_take hv)⟩)
      have HN2 := Lib.hid hn
      have HCS := Lib.hid hcs
      have HCSL := Lib.hid hcsl
      clear hn hcs hcsl d0 d1 c0 e0 e1 e2 hb ho hR' hpb' ho1
      go_region_held3 (fun w' => w'.cell? ⟨p.g, 0, none⟩ = some (.slice (some ⟨p.d, 0, none⟩) X C) ∧ w'.cell? ⟨R, 2, none⟩ = some (.int .i64 s)) (first | exact ⟨x1, x2⟩ | exact HK.out _ hgr2)
        ((refine step_copy (by rfl) _ _ _ _ (by rfl) 5 Tryd.underlying24 size5 _ _ _ _ _ _ (by rfl) (by rfl) pb t cur 5 (Blk.drew hpb1) cs HCSM.out HPOS.out HFT.out HU1.out ?_; rw [HCSL.out]; intro w2 HG2 hgr2))
      have hgr : w1.grownBy w2 (some pb) := ⟨hgr2.os, hgr2.tape, hgr2.output, hgr2.size, hgr2.block⟩
      have hR2 : IsReader w2 R B i s := Blk.grown hR1 hgr (fun e => hRpb (Option.some.inj e))
      have x3 := hR2.frozen 2
      have hw2 : Only (fun k => k = R ∨ k = pb) w0 w2 := hoo.grown hgr (by rintro g ⟨⟩; exact .inl (.inr rfl))
      obtain ⟨s', hs'⟩ : ∃ s', s' = s + n := ⟨_, rfl⟩
      have hs3 : s' ≤ X := by omega
      have hE3 : IsReader (w2.setCell ⟨R, 2, none⟩ (.int .i64 ((s : Int) + (n : Int)))) R B i s' ∧ Blk (w2.setCell ⟨R, 2, none⟩ (.int .i64 ((s : Int) + (n : Int)))) pb 5 (splice cur t cs).toArray ∧ Only (fun k => k = R ∨ k = pb) w0 (w2.setCell ⟨R, 2, none⟩ (.int .i64 ((s : Int) + (n : Int)))) := by
        refine ⟨?_, Blk.far (p := ⟨R, 2, none⟩) (show Blk w2 pb 5 _ from HG2.out) (Ne.symm hRpb) _, hw2.setCell (.inl (.inl rfl)) _⟩
        have h3 := Blk.set_ hR2 2 (.int .i64 ((s : Int) + (n : Int)))
        have e : ((s' : Nat) : Int) = (s : Int) + (n : Int) := by omega
        unfold IsReader
        rw [e]
        simpa using h3
      have HE3 := Lib.hid hE3
      have HS' := Lib.hid hs'
      clear hE3 hs'
      go_wp2_with fail
      refine forget (fun w' => IsReader w' R B i s' ∧ Blk w' pb 5 (splice cur t cs).toArray ∧ Only (fun k => k = R ∨ k = pb) w0 w') HE3.out ?_
      rintro w3 ⟨hR3, hpb3, ho3⟩
      have hb3 := buf_beside h hR0.out hpb0.out HPD.out ho3
      have y0 : w3.cell? ⟨R, 0, none⟩ = some (.pointer (some ⟨B, 0, none⟩)) := hR3.cell 0
      have y1 : w3.cell? ⟨R, 1, none⟩ = some (.int .i64 i) := hR3.cell 1
      have y2 : w3.cell? ⟨R, 2, none⟩ = some (.int .i64 s') := hR3.cell 2
      have y3 : w3.cell? ⟨p.g, 0, none⟩ = some (.slice (some ⟨p.d, 0, none⟩) X C) := by rw [HX.out, HC.out]; exact (hb3.ptr HP.out).2.1
      have yf1 := hR3.frozen 1
      have yf2 := hR3.frozen 2
      have hDATA : Hid ((splice cur t cs).take (t + n) = ((bytesOf (ps ++ [l])).drop q).take (t + n)) := by
        show _ = _
        have h3 := take_splice cur cs t (by rw [HCL.out]; exact ht)
        rw [HCSL.out] at h3
        rw [h3, HCT.out, HCS.out]
        exact (read_data HP.out (by rw [← HX.out]; exact hs1) HQT.out (by rw [← HX.out]; exact hn1)).symm
      have hLEN : Hid ((splice cur t cs).length = z) := by show _ = _; rw [length_splice _ _ _ HFT.out, HCL.out]
      have hti : t + n ≤ z := by omega
      have HNX : Hid (n = Nat.min (p.xs.length - s) (z - t)) := by show _ = _; rw [← HX.out]; exact HN2.out
      clear hR2 x1 x2 x3 hgr hw2 hb1 hpb1 hR1 hoo
      go_quiet (fail)
      have hE3' : w3.cell? ⟨0, 0, none⟩ = some (.iface 61 (.pointer (some ea))) := (World.cell?_of_block (w := w0) (a := ⟨0, 0, none⟩) (ho3.block 0 (World.block_lt_of_cell? w0 _ hE) (by rintro (h | h) <;> omega))).trans hE
      have HGK : Hid (2 * (N - i) + 1 ≤ gk) := by
        have h3 := HME.out
        rw [if_pos htz, ← HN.out] at h3
        exact h3
      by_cases hfin : C ≤ s'
      · have HST' : Hid (Stands (ps ++ [l]) (i + 1) 0 (q + (t + n))) := stands_on hb3 HST.out HP.out (by rw [← HX.out]; exact hn1) (by rw [← HC.out, ← HS'.out]; exact hfin)
        go_wp2_with fail
        go_roundg (2 * (N - (i + 1)) + 1)
        case measure => have h3 := HGK.out; omega
        case rel =>
          refine ⟨t + n, i + 1, 0, splice cur t cs, by go_num, hti, HST'.out, ?_, ?_, hLEN.out, hDATA.out, ?_, ?_⟩
          · have h3 := Blk.set_ (Blk.set_ (Blk.drewN hR3 nq) 1 (.int .i64 ((i : Int) + 1))) 2 (.int .i64 0)
            unfold IsReader
            have e : ((i + 1 : Nat) : Int) = (i : Int) + 1 := by omega
            rw [e]
            simpa using h3
          · exact ((hpb3.drewN nq).far (p := ⟨R, 1, none⟩) (Ne.symm hRpb) _).far (p := ⟨R, 2, none⟩) (Ne.symm hRpb) _
          · exact ((ho3.drewN nq).setCell (.inl (.inl rfl)) _).setCell (.inl (.inl rfl)) _
          · rw [← HN.out]
            split <;> omega
      · have HST' : Hid (Stands (ps ++ [l]) i s' (q + (t + n))) := by rw [HS'.out]; exact stands_stay HST.out HP.out (by rw [← HX.out]; exact hn1) (by rw [← HC.out, ← HS'.out]; omega)
        by_cases hlast : i + 1 = N
        · have hil : ((i : Int) == (N : Int) - 1) = true := by simp; omega
          have HEND : Hid (t + n = z ∨ q + (t + n) = (bytesOf (ps ++ [l])).length) := last_total HST.out HP.out HNX.out ht (by rw [← HN.out]; exact hlast)
          by_cases ht0 : t + n = 0
          · obtain rfl : t = 0 := by omega
            obtain rfl : n = 0 := by omega
            go_wp2_with fail
            go_quiet (fail)
            go_wp2_with fail
            go_ret2
            exact ⟨0, i, s', splice cur 0 cs, by rw [if_pos rfl]; rfl, HEND.out, Nat.zero_le _, HST'.out, Blk.drewN (Blk.drewN hR3 _) _, (hpb3.drewN _).drewN _, hLEN.out, by simp, (ho3.drewN _).drewN _⟩
          · have ht0' : ((t : Int) + (n : Int) == 0) = false := by simp; omega
            go_wp2_with fail
            go_ret2
            exact ⟨t + n, i, s', splice cur t cs, by rw [if_neg ht0]; go_num, HEND.out, hti, HST'.out, Blk.drewN hR3 _, hpb3.drewN _, hLEN.out, hDATA.out, ho3.drewN _⟩
        · have hil : ((i : Int) == (N : Int) - 1) = false := by simp; omega
          have htz' : t + n = z := not_last HF.out HP.out HNX.out ht (by rw [← HN.out]; omega) (by rw [← HC.out, ← HS'.out]; omega)
          have HTZ := Lib.hid htz'
          clear htz'
          go_wp2_with fail
          go_roundg (2 * (N - i))
          case measure => have h3 := HGK.out; omega
          case rel =>
            refine ⟨t + n, i, s', splice cur t cs, by go_num, hti, HST'.out, Blk.drewN hR3 _, hpb3.drewN _, hLEN.out, hDATA.out, ho3.drewN _, ?_⟩
            rw [← HN.out, if_neg (by have := HTZ.out; omega)]
            omega
    · have hend : t = z ∨ q + t = (bytesOf (ps ++ [l])).length := by
        rcases Nat.lt_or_ge t z with h1 | h1
        · right
          have hiN' : i = (ps ++ [l]).length := by rw [← HN.out]; omega
          obtain ⟨_, h3, _, h5⟩ := HST.out
          rw [hiN', List.take_length] at h3
          have := h5 hiN'
          omega
        · left; omega
      have HEND := Lib.hid hend
      clear hend
      by_cases hi : i < N
      · have htz : ¬ t < z := fun h => hgo ⟨hi, h⟩
        obtain rfl : t = z := by omega
        have ht0 : ((t : Int) == 0) = false := by simp; omega
        go_wp2_with fail
        go_ret2
        exact ⟨t, i, s, cur, by rw [if_neg (by omega)]; rfl, .inl rfl, Nat.le_refl _, HST.out, hR', hpb', HCL.out, HCT.out, ho⟩
      · by_cases ht0 : t = 0
        · subst ht0
          go_wp2_with fail
          go_quiet (fail)
          go_wp2_with fail
          go_ret2
          exact ⟨0, i, s, cur, by rw [if_pos rfl]; rfl, HEND.out, Nat.zero_le _, HST.out, Blk.drewN hR' _, hpb'.drewN _, HCL.out, HCT.out, ho.drewN _⟩
        · have ht0' : ((t : Int) == 0) = false := by simp; omega
          go_wp2_with fail
          go_ret2
          exact ⟨t, i, s, cur, by rw [if_neg (by omega)]; rfl, HEND.out, ht, HST.out, hR', hpb', HCL.out, HCT.out, ho⟩
end Go.Proofs.YtgjbafongiocbaaDoor
