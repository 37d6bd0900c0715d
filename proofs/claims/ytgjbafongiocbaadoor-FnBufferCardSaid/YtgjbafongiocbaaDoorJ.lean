/- The buffer with its bounds; how it is cut. -/
import Derived.Test.YtgjbafongiocbaaDoorI
namespace Go.Proofs.YtgjbafongiocbaaDoor
open Go.RowKit

/-- The buffer at block B holds the bytes bs; all pages but the last one are full; the next page is not too long (M). -/
def PB (w : World) (base B M : Nat) (bs : List Value) : Prop :=
  ∃ pa pc ps l next, Buf w base B pa pc (ps ++ [l]) next ∧ (∀ p ∈ ps, p.xs.length = p.cap) ∧ bytesOf (ps ++ [l]) = bs ∧ 0 < next ∧ next ≤ M ∧ (2 * l.cap = next ∨ 2 * next ≤ M)

theorem full_len {w : World} {base B pa pc next : Nat} {ps : List Pg} {l : Pg} (h : Buf w base B pa pc (ps ++ [l]) next) (hf : ∀ p ∈ ps, p.xs.length = p.cap) : ps.length ≤ (bytesOf (ps ++ [l])).length := by
  have hpos : ∀ p ∈ ps, 0 < p.xs.length := fun p hp => by
    rw [hf p hp]
    exact (h.each p (List.mem_append_left _ hp)).pos
  have : ∀ qs : List Pg, (∀ p ∈ qs, 0 < p.xs.length) → qs.length ≤ (bytesOf qs).length := by
    intro qs
    induction qs with
    | nil => intro _; simp [bytesOf]
    | cons q qs ih =>
      intro hq
      have h1 := hq q List.mem_cons_self
      have h2 := ih fun p hp => hq p (List.mem_cons_of_mem _ hp)
      simp only [bytesOf, List.flatMap_cons, List.length_append, List.length_cons] at h2 ⊢
      omega
  have h1 := this ps hpos
  simp only [bytesOf, List.flatMap_append, List.length_append] at h1 ⊢
  omega

theorem bytesOf_cut (ps : List Pg) (i s : Nat) (p : Pg) (hp : ps[i]? = some p) (hs : s < p.xs.length) :
    bytesOf (ps.take i ++ [{ p with xs := p.xs.take s }]) = (bytesOf ps).take ((bytesOf (ps.take i)).length + s) := by
  have e : bytesOf ps = bytesOf (ps.take i) ++ (p.xs ++ bytesOf (ps.drop (i + 1))) := by
    obtain ⟨hi, rfl⟩ := List.getElem?_eq_some_iff.1 hp
    have h1 := congrArg (fun l => l.flatMap Pg.xs) (List.take_append_drop i ps)
    simp only [List.flatMap_append, List.drop_eq_getElem_cons hi, List.flatMap_cons] at h1
    exact h1.symm
  have e2 : bytesOf (ps.take i ++ [{ p with xs := p.xs.take s }]) = bytesOf (ps.take i) ++ p.xs.take s := by
    simp only [bytesOf, List.flatMap_append, List.flatMap_cons, List.flatMap_nil, List.append_nil]
  rw [e2, e]
  generalize bytesOf (ps.take i) = x
  generalize bytesOf (ps.drop (i + 1)) = y
  have h1 : (x ++ (p.xs ++ y)).take (x.length + s) = x ++ (p.xs ++ y).take s := by rw [List.take_length_add_append]
  rw [h1, List.take_append_of_le_length (by omega)]

theorem own_cut_le {w : World} {base : Nat} {e : TypeId} {g n c : Nat} {xs : List Value} (h : w.ownsRow base e 1 (.slice (some ⟨g, 0, none⟩) n c) n xs) {k : Nat} (hk : k ≤ n) :
    w.ownsRow base e 1 (.slice (some ⟨g, 0, none⟩) k c) k (xs.take k) := by
  obtain ⟨cur, hb, hs, hn, hm, hg, ht⟩ := own_blk h
  refine ⟨?_, .inr ⟨g, c, cur, rfl, hg, hb, by omega, hm, by omega, ?_⟩⟩
  · have := h.1; rw [List.length_take]; omega
  · rw [← ht, List.take_take]; congr 1; omega

theorem nodup_at {α : Type} (f : Pg → α) {ps : List Pg} (h : (ps.map f).Nodup) {i : Nat} {p : Pg} (hp : ps[i]? = some p) : (∀ x ∈ ps.take i, f x ≠ f p) ∧ ((ps.take i ++ [p]).map f).Nodup := by
  obtain ⟨hi, rfl⟩ := List.getElem?_eq_some_iff.1 hp
  have e : ps.take i ++ [ps[i]] = ps.take (i + 1) := (List.take_succ_eq_append_getElem hi).symm
  have hn : ((ps.take i ++ [ps[i]]).map f).Nodup := by
    rw [e, List.map_take]
    exact h.sublist (List.take_sublist _ _)
  refine ⟨fun x hx he => ?_, hn⟩
  rw [List.map_append, List.nodup_append] at hn
  exact hn.2.2 _ (List.mem_map_of_mem hx) _ (by simp) he

/-- What a cut leaves. -/
def CutTo (w : World) (base B pa pc next : Nat) (ps : List Pg) (q : Nat) (e : Ending) (w' : World) : Prop :=
  ∃ (i s : Nat) (p : Pg), e = .returned (.tuple #[]) ∧ ps[i]? = some p ∧ (bytesOf (ps.take i)).length + s = q ∧ s < p.xs.length ∧
    Buf w' base B pa pc (ps.take i ++ [{ p with xs := p.xs.take s }]) next ∧ Only (fun k => k = B ∨ k = p.g) w w'

theorem cut_end {w w2 : World} {base B pa pc next : Nat} {ps : List Pg} (h : Buf w base B pa pc ps next) {i s q : Nat} {p : Pg} (hp : ps[i]? = some p) (hqs : (bytesOf (ps.take i)).length + s = q) (hs : s < p.xs.length)
    (ho2 : Only (fun k => k = B ∨ k = p.g) w w2) (hB2 : Blk w2 B 52 #[.slice (some ⟨pa, 0, none⟩) (i + 1) pc, .int .i64 (bytesOf ps).length, .int .i64 next]) (hg2 : Blk w2 p.g 55 #[.slice (some ⟨p.d, 0, none⟩) p.xs.length p.cap]) (nq : Nat) :
    CutTo w base B pa pc next ps q (.returned (.tuple #[])) (((w2.drewN nq).setCell ⟨p.g, 0, none⟩ (.slice (some ⟨p.d, 0, none⟩) s p.cap)).setCell ⟨B, 1, none⟩ (.int .i64 q)) := by
  have hpm := List.mem_of_getElem? hp
  have hi : i < ps.length := (List.getElem?_eq_some_iff.1 hp).1
  have hneBg : p.g ≠ B := (h.each p hpm).blk.ne_ h.blk (by decide)
  obtain ⟨cpa, hbpa, _⟩ := own_blk h.row
  have hnpaB : pa ≠ B := hbpa.ne_ h.blk (by decide)
  have hnpag : pa ≠ p.g := hbpa.ne_ (h.each p hpm).blk (by decide)
  have hOnly : Only (fun k => k = B ∨ k = p.g) w (((w2.drewN nq).setCell ⟨p.g, 0, none⟩ (.slice (some ⟨p.d, 0, none⟩) s p.cap)).setCell ⟨B, 1, none⟩ (.int .i64 q)) :=
    ((ho2.drewN nq).setCell (.inl (.inr rfl)) _).setCell (.inl (.inl rfl)) _
  obtain ⟨hng, hngs⟩ := nodup_at Pg.g h.gs hp
  obtain ⟨hnd, hnds⟩ := nodup_at Pg.d h.ds hp
  have hbl : (bytesOf (ps.take i ++ [{ p with xs := p.xs.take s }])).length = q := by
    have : (bytesOf (ps.take i ++ [{ p with xs := p.xs.take s }])).length = (bytesOf (ps.take i)).length + (p.xs.take s).length := by
      simp only [bytesOf, List.flatMap_append, List.flatMap_cons, List.flatMap_nil, List.append_nil, List.length_append]
    rw [this, List.length_take]; omega
  have hpl : (ps.take i ++ [{ p with xs := p.xs.take s }]).length = i + 1 := by simp; omega
  refine ⟨i, s, p, rfl, hp, hqs, hs, ⟨?_, ?_, ?_, ?_, ?_, h.ge⟩, hOnly⟩
  · have := ((hB2.drewN nq).far (p := ⟨p.g, 0, none⟩) (Ne.symm hneBg) (.slice (some ⟨p.d, 0, none⟩) s p.cap)).set_ 1 (.int .i64 q)
    rw [hbl, hpl]
    simpa using this
  · have h1 : w.ownsRow base 53 1 (.slice (some ⟨pa, 0, none⟩) (i + 1) pc) (i + 1) ((ps.map Pg.ptr).take (i + 1)) := own_cut_le h.row (by omega)
    have e : (ps.take i ++ [{ p with xs := p.xs.take s }]).map Pg.ptr = (ps.map Pg.ptr).take (i + 1) := by
      obtain ⟨_, rfl⟩ := List.getElem?_eq_some_iff.1 hp
      rw [List.take_succ_eq_append_getElem (by simpa using hi)]
      simp [Pg.ptr, List.map_take]
    rw [hpl, e]
    refine own_only h1 hOnly fun g hg => ?_
    simp only [Value.ownBlock, Option.some.injEq] at hg
    subst hg
    rintro (h | h)
    · exact hnpaB h
    · exact hnpag h
  · intro x hx
    rcases List.mem_append.1 hx with hx | hx
    · have hxm := List.mem_of_mem_take hx
      have hxo := h.each x hxm
      obtain ⟨cx, hcx, _⟩ := hxo.cur
      refine hxo.only hOnly ?_ ?_
      · rintro (h1 | h1)
        · exact hxo.blk.ne_ h.blk (by decide) h1
        · exact hng x hx h1
      · rintro (h1 | h1)
        · exact hcx.ne_ h.blk (by decide) h1
        · exact hcx.ne_ (h.each p hpm).blk (by decide) h1
    · simp only [List.mem_singleton] at hx
      subst hx
      obtain ⟨cp, hcp, hcl, hct⟩ := (h.each p hpm).cur
      obtain ⟨hle, hcm, hbd⟩ := (h.each p hpm).le
      refine PgOk.mk' (cur := cp) ?_ (hcp.only hOnly ?_) hcl ?_ ?_ hcm (h.each p hpm).pos (h.each p hpm).g_ge hbd
      · have := ((hg2.drewN nq).set_ 0 (.slice (some ⟨p.d, 0, none⟩) s p.cap)).far (p := ⟨B, 1, none⟩) hneBg (.int .i64 q)
        have e : (p.xs.take s).length = s := by rw [List.length_take]; omega
        simpa [Pg.buf, e] using this
      · rintro (h1 | h1)
        · exact hcp.ne_ h.blk (by decide) h1
        · exact hcp.ne_ (h.each p hpm).blk (by decide) h1
      · show cp.take (p.xs.take s).length = p.xs.take s
        conv => rhs; rw [← hct]
        rw [List.take_take, List.length_take]
      · show (p.xs.take s).length ≤ p.cap
        rw [List.length_take]; omega
  · have e : (ps.take i ++ [{ p with xs := p.xs.take s }]).map Pg.g = (ps.take i ++ [p]).map Pg.g := by simp
    rw [e]; exact hngs
  · have e : (ps.take i ++ [{ p with xs := p.xs.take s }]).map Pg.d = (ps.take i ++ [p]).map Pg.d := by simp
    rw [e]; exact hnds

theorem cut_any {w : World} {base B pa pc next : Nat} {ps : List Pg} (h : Buf w base B pa pc ps next) (q : Nat) (hq : q < (bytesOf ps).length) (hl : (bytesOf ps).length ≤ 1099511627776) (hpl : ps.length ≤ 1099511627776) :
    Calls Tryd.prog 12 #[.pointer (some ⟨B, 0, none⟩), .int .i64 q] w (CutTo w base B pa pc next ps q) := by
  obtain ⟨c0, c1, c2⟩ := h.cell
  have hfB := h.blk.frozen
  obtain ⟨hn1, hn2⟩ := h.len_le
  go_enter Tryd.func12, Tryd.ntmps12
  go_wp2_with fail
  refine (offset_any h q hq hl hpl).mono ?_
  rintro e w1 ⟨i, s, p, rfl, hp, hqs, hs, rfl⟩
  obtain ⟨d0, d1, d2, d3⟩ := h.ptr hp
  have hil : i < ps.length := (List.getElem?_eq_some_iff.1 hp).1
  have hfg := (h.each p (List.mem_of_getElem? hp)).blk.frozen
  have hneBg : p.g ≠ B := (h.each p (List.mem_of_getElem? hp)).blk.ne_ h.blk (by decide)
  have HP := Lib.hid hp
  have HQS := Lib.hid hqs
  clear hp hqs
  go_wp2_with fail
  refine forget (fun w' => Only (fun k => k = B ∨ k = p.g) w w' ∧ Blk w' B 52 #[.slice (some ⟨pa, 0, none⟩) (i + 1) pc, .int .i64 (bytesOf ps).length, .int .i64 next] ∧ Blk w' p.g 55 #[.slice (some ⟨p.d, 0, none⟩) p.xs.length p.cap])
    ⟨(Only.refl _ w).setCell (.inl (.inl rfl)) _, h.blk.set_ 0 _, (h.each p (List.mem_of_getElem? HP.out)).blk.far (p := ⟨B, 0, none⟩) hneBg _⟩ ?_
  rintro w2 ⟨ho2, hB2, hg2⟩
  obtain ⟨cpa, hbpa, _⟩ := own_blk h.row
  have hnpaB : pa ≠ B := hbpa.ne_ h.blk (by decide)
  have hnpag : pa ≠ p.g := hbpa.ne_ (h.each p (List.mem_of_getElem? HP.out)).blk (by decide)
  have e0 : w2.cell? ⟨B, 0, none⟩ = some (.slice (some ⟨pa, 0, none⟩) (i + 1) pc) := hB2.cell 0
  have e1 : w2.cell? ⟨pa, i, none⟩ = some (.pointer (some ⟨p.g, 0, none⟩)) := (World.cell?_of_block (w := w) (ho2.block pa hbpa.lt (by rintro (h | h); exact hnpaB h; exact hnpag h))).trans d0
  have e2 : w2.cell? ⟨p.g, 0, none⟩ = some (.slice (some ⟨p.d, 0, none⟩) p.xs.length p.cap) := hg2.cell 0
  have ef := hg2.frozen 0
  have eB1 : w2.cell? ⟨B, 1, none⟩ = some (.int .i64 (bytesOf ps).length) := hB2.cell 1
  have eBf := hB2.frozen 1
  clear c0 c1 c2 d0 d1 hfB hfg
  go_quiet (fail)
  go_wp2_with fail
  go_end0
  exact cut_end h HP.out HQS.out hs ho2 hB2 hg2 nq
end Go.Proofs.YtgjbafongiocbaaDoor
