/- What a write makes of the buffer: a page filled up, a page more. -/
import Derived.Test.YtgjbafongiocbaaDoorK
namespace Go.Proofs.YtgjbafongiocbaaDoor
open Go.RowKit

theorem Buf.drew {w : World} {base B pa pc next : Nat} {ps : List Pg} (h : Buf w base B pa pc ps next) : Buf w.drew base B pa pc ps next :=
  h.only ((Only.refl (fun _ => False) w).drew) id id (fun _ _ => ⟨id, id⟩)

theorem bytesOf_last (ps : List Pg) (l : Pg) : bytesOf (ps ++ [l]) = bytesOf ps ++ l.xs := by
  simp only [bytesOf, List.flatMap_append, List.flatMap_cons, List.flatMap_nil, List.append_nil]

theorem take_splice (cur cs : List Value) (L : Nat) (h : L ≤ cur.length) : (splice cur L cs).take (L + cs.length) = cur.take L ++ cs := by
  have e : (cur.take L).length = L := by rw [List.length_take]; omega
  have h1 : (cur.take L ++ (cs ++ cur.drop (L + cs.length))).take ((cur.take L).length + cs.length) = cur.take L ++ (cs ++ cur.drop (L + cs.length)).take cs.length := List.take_length_add_append _
  rw [e] at h1
  unfold splice
  rw [h1, List.take_left]

/-- The last page takes some cells more. -/
theorem fill_end {w1 w2 : World} {base B pa pc next L C q T : Nat} {ps : List Pg} {l : Pg} {cur cs : List Value} (hb : Buf w1 base B pa pc (ps ++ [l]) next) (hcur : Blk w1 l.d 5 cur.toArray) (hcl : cur.length = C) (hct : cur.take l.xs.length = l.xs)
    (hL : L = l.xs.length) (hC : C = l.cap) (hq : cs.length = q) (hfit : L + q ≤ C) (hg : w1.grownBy w2 (some l.d)) (hd2 : w2.heap[l.d]? = some (.cells (splice cur L cs).toArray 5 (0, 0))) (hT : T = (bytesOf (ps ++ [l])).length) :
    Buf ((w2.setCell ⟨l.g, 0, none⟩ (.slice (some ⟨l.d, 0, none⟩) (L + q) C)).setCell ⟨B, 1, none⟩ (.int .i64 ((T : Int) + (q : Int)))).drew base B pa pc (ps ++ [{ l with xs := l.xs ++ cs }]) next ∧
      Only (fun k => k = B ∨ k = l.g ∨ k = l.d) w1 ((w2.setCell ⟨l.g, 0, none⟩ (.slice (some ⟨l.d, 0, none⟩) (L + q) C)).setCell ⟨B, 1, none⟩ (.int .i64 ((T : Int) + (q : Int)))).drew := by
  have hlm : l ∈ ps ++ [l] := by simp
  have hl := hb.each l hlm
  have hndg : l.d ≠ l.g := hcur.ne_ hl.blk (by decide)
  have hnBg : B ≠ l.g := hb.blk.ne_ hl.blk (by decide)
  have hnBd : B ≠ l.d := hb.blk.ne_ hcur (by decide)
  obtain ⟨cpa, hbpa, _⟩ := own_blk hb.row
  have hnpaB : pa ≠ B := hbpa.ne_ hb.blk (by decide)
  have hnpag : pa ≠ l.g := hbpa.ne_ hl.blk (by decide)
  have hnpad : pa ≠ l.d := hbpa.ne_ hcur (by decide)
  obtain ⟨hle, hcm, hbd⟩ := hl.le
  have hOnly : Only (fun k => k = B ∨ k = l.g ∨ k = l.d) w1 ((w2.setCell ⟨l.g, 0, none⟩ (.slice (some ⟨l.d, 0, none⟩) (L + q) C)).setCell ⟨B, 1, none⟩ (.int .i64 ((T : Int) + (q : Int)))).drew :=
    ((((Only.refl _ w1).grown hg (by rintro g ⟨⟩; exact .inl (.inr (.inr rfl)))).setCell (.inl (.inr (.inl rfl))) _).setCell (.inl (.inl rfl)) _).drew
  have hptr : (ps ++ [l])[ps.length]? = some l := by simp
  obtain ⟨hng, hngs⟩ := nodup_at Pg.g hb.gs hptr
  obtain ⟨hnd, hnds⟩ := nodup_at Pg.d hb.ds hptr
  rw [List.take_left'] at hng hnd
  rotate_left
  · rfl
  · rfl
  refine ⟨⟨?_, ?_, ?_, ?_, ?_, hb.ge⟩, hOnly⟩
  · have h1 := ((hb.blk.grown hg (fun e => hnBd (Option.some.inj e))).far (p := ⟨l.g, 0, none⟩) hnBg (.slice (some ⟨l.d, 0, none⟩) (L + q) C)).set_ 1 (.int .i64 ((T : Int) + (q : Int)))
    have e : (((bytesOf (ps ++ [{ l with xs := l.xs ++ cs }])).length : Nat) : Int) = (T : Int) + (q : Int) := by
      rw [hT, bytesOf_last, bytesOf_last, List.length_append, List.length_append, List.length_append]
      omega
    rw [e]
    simpa using h1.drew
  · have e : (ps ++ [{ l with xs := l.xs ++ cs }]).map Pg.ptr = (ps ++ [l]).map Pg.ptr := by simp [Pg.ptr]
    have e2 : (ps ++ [{ l with xs := l.xs ++ cs }]).length = (ps ++ [l]).length := by simp
    rw [e, e2]
    refine own_only hb.row hOnly fun g hgg => ?_
    simp only [Value.ownBlock, Option.some.injEq] at hgg
    subst hgg
    rintro (h | h | h)
    · exact hnpaB h
    · exact hnpag h
    · exact hnpad h
  · intro x hx
    rcases List.mem_append.1 hx with hx | hx
    · have hxo := hb.each x (List.mem_append_left _ hx)
      obtain ⟨cx, hcx, _⟩ := hxo.cur
      refine hxo.only hOnly ?_ ?_
      · rintro (h1 | h1 | h1)
        · exact hxo.blk.ne_ hb.blk (by decide) h1
        · exact hng x hx h1
        · exact hxo.blk.ne_ hcur (by decide) h1
      · rintro (h1 | h1 | h1)
        · exact hcx.ne_ hb.blk (by decide) h1
        · exact hcx.ne_ hl.blk (by decide) h1
        · exact hnd x hx h1
    · simp only [List.mem_singleton] at hx
      subst hx
      have hspl : (splice cur L cs).length = C := by rw [length_splice _ _ _ (by omega), hcl]
      refine PgOk.mk' (cur := splice cur L cs) ?_ ?_ (by rw [hspl]; exact hC) ?_ (by show (l.xs ++ cs).length ≤ l.cap; rw [List.length_append]; omega) hcm hl.pos hl.g_ge hbd
      · have h1 := ((hl.blk.grown hg (fun e => hndg (Option.some.inj e).symm)).set_ 0 (.slice (some ⟨l.d, 0, none⟩) (L + q) C)).far (p := ⟨B, 1, none⟩) (Ne.symm hnBg) (.int .i64 ((T : Int) + (q : Int)))
        have e : (l.xs ++ cs).length = L + q := by rw [List.length_append]; omega
        simpa [Pg.buf, e, hC] using h1.drew
      · have h1 : Blk w2 l.d 5 (splice cur L cs).toArray := hd2
        exact ((h1.far (p := ⟨l.g, 0, none⟩) hndg _).far (p := ⟨B, 1, none⟩) (Ne.symm hnBd) _).drew
      · show (splice cur L cs).take (l.xs ++ cs).length = l.xs ++ cs
        rw [List.length_append, ← hL, take_splice cur cs L (by omega), hL, hct]
  · have e : (ps ++ [{ l with xs := l.xs ++ cs }]).map Pg.g = (ps ++ [l]).map Pg.g := by simp
    rw [e]; exact hb.gs
  · have e : (ps ++ [{ l with xs := l.xs ++ cs }]).map Pg.d = (ps ++ [l]).map Pg.d := by simp
    rw [e]; exact hb.ds

/-- A page more. -/
theorem grow_end {w4 w5 : World} {base B pa pc next gg cap N : Nat} {qs : List Pg} (hb : Buf w4 base B pa pc qs next) (hN : qs.length = N) (h0 : 0 < next) (hx : next ≤ 20000000)
    (hown5 : w5.ownsRow base 53 1 (.slice (some ⟨gg, 0, none⟩) (N + 1) cap) (N + 1) (qs.map Pg.ptr ++ [.pointer (some ⟨w4.heap.size + 1, 0, none⟩)]))
    (hgrow5 : (((w4.alloc (.cells (zeros next) 5)).alloc (.cells #[.slice (some ⟨w4.heap.size, 0, none⟩) 0 next] 55)).alloc (.cells #[.pointer (some ⟨w4.heap.size + 1, 0, none⟩)] 53)).drew.grownBy w5 (Value.slice (some ⟨pa, 0, none⟩) N pc).ownBlock)
    (hat5 : (Value.slice (some ⟨pa, 0, none⟩) N pc).ownBlock = some gg ∨ gg = w4.heap.size + 3) :
    Buf ((w5.setCell ⟨B, 0, none⟩ (.slice (some ⟨gg, 0, none⟩) (N + 1) cap)).setCell ⟨B, 2, none⟩ (.int .i64 ((next : Int) * 2))) base B gg cap (qs ++ [⟨w4.heap.size + 1, w4.heap.size, next, []⟩]) (2 * next) ∧
      Only (fun k => k = B ∨ k = pa) w4 ((w5.setCell ⟨B, 0, none⟩ (.slice (some ⟨gg, 0, none⟩) (N + 1) cap)).setCell ⟨B, 2, none⟩ (.int .i64 ((next : Int) * 2))) := by
  subst hN
  obtain ⟨hBl, hpal, hpsl⟩ := hb.lt
  obtain ⟨cpa, hbpa, _⟩ := own_blk hb.row
  have hnpaB : pa ≠ B := hbpa.ne_ hb.blk (by decide)
  have hOnly5 : Only (fun k => k = B ∨ k = pa) w4 w5 := ((((Only.refl _ w4).alloc _).alloc _).alloc _).drew.grown hgrow5 (by rintro g ⟨⟩; exact .inl (.inr rfl))
  have hOnly := (hOnly5.setCell (p := ⟨B, 0, none⟩) (.inl (.inl rfl)) (.slice (some ⟨gg, 0, none⟩) (qs.length + 1) cap)).setCell (p := ⟨B, 2, none⟩) (.inl (.inl rfl)) (.int .i64 ((next : Int) * 2))
  have hd : Blk w5 w4.heap.size 5 (zeros next) := Blk.grown (((((Blk.new w4 5 (zeros next)).alloc _).alloc _).drew)) hgrow5 (by simp [Value.ownBlock]; omega)
  have hp : Blk w5 (w4.heap.size + 1) 55 #[.slice (some ⟨w4.heap.size, 0, none⟩) 0 next] := by
    have := Blk.new (w4.alloc (.cells (zeros next) 5)) 55 #[.slice (some ⟨w4.heap.size, 0, none⟩) 0 next]
    rw [show (w4.alloc (.cells (zeros next) 5)).heap.size = w4.heap.size + 1 from by simp] at this
    exact Blk.grown ((this.alloc _).drew) hgrow5 (by simp [Value.ownBlock]; omega)
  have hB5 := Blk.grown ((((hb.blk.alloc _).alloc _).alloc _).drew) hgrow5 (by simp [Value.ownBlock]; exact Ne.symm hnpaB)
  have hggB : gg ≠ B := by
    rcases hat5 with h | h
    · simp [Value.ownBlock] at h; omega
    · omega
  have e2 : ((2 * next : Nat) : Int) = (next : Int) * 2 := by omega
  have hge := hb.ge
  refine ⟨⟨?_, ?_, ?_, ?_, ?_, hge⟩, hOnly⟩
  · have h1 := (hB5.set_ 0 (.slice (some ⟨gg, 0, none⟩) (qs.length + 1) cap)).set_ 2 (.int .i64 ((next : Int) * 2))
    have e3 : bytesOf (qs ++ [⟨w4.heap.size + 1, w4.heap.size, next, []⟩]) = bytesOf qs := by rw [bytesOf_last]; simp
    rw [e3, e2]
    simpa using h1
  · have e4 : (qs ++ [(⟨w4.heap.size + 1, w4.heap.size, next, []⟩ : Pg)]).map Pg.ptr = qs.map Pg.ptr ++ [.pointer (some ⟨w4.heap.size + 1, 0, none⟩)] := by simp [Pg.ptr]
    have hne : ∀ (k g : Nat), (Value.slice (some ⟨gg, 0, none⟩) (qs.length + 1) cap).ownBlock = some g → g ≠ (⟨B, k, none⟩ : Addr).block := by
      intro k g hg
      simp only [Value.ownBlock, Option.some.injEq] at hg
      subst hg
      exact hggB
    rw [e4, show (qs ++ [(⟨w4.heap.size + 1, w4.heap.size, next, []⟩ : Pg)]).length = qs.length + 1 from by simp]
    exact own_set (own_set hown5 (hne 0) _) (hne 2) _
  · intro x hx
    rcases List.mem_append.1 hx with hx | hx
    · have hxo := hb.each x hx
      obtain ⟨cx, hcx, _⟩ := hxo.cur
      refine hxo.only hOnly ?_ ?_
      · rintro (h1 | h1)
        · exact hxo.blk.ne_ hb.blk (by decide) h1
        · exact hxo.blk.ne_ hbpa (by decide) h1
      · rintro (h1 | h1)
        · exact hcx.ne_ hb.blk (by decide) h1
        · exact hcx.ne_ hbpa (by decide) h1
    · simp only [List.mem_singleton] at hx
      subst hx
      have h3 : w4.heap.size + 1 ≠ B := by omega
      have h4 : w4.heap.size ≠ B := by omega
      refine PgOk.mk' (cur := (zeros next).toList) ((hp.far (p := ⟨B, 0, none⟩) h3 _).far (p := ⟨B, 2, none⟩) h3 _) ((hd.far (p := ⟨B, 0, none⟩) h4 _).far (p := ⟨B, 2, none⟩) h4 _) (by simp [zeros_size]) (by simp) (Nat.zero_le _) (by show next ≤ maxLen; unfold maxLen; omega) h0 (by show base ≤ w4.heap.size + 1; omega) (by show base ≤ w4.heap.size; omega)
  · rw [List.map_append, List.nodup_append]
    refine ⟨hb.gs, by simp, fun a ha b hbm => ?_⟩
    obtain ⟨x, hx, rfl⟩ := List.mem_map.1 ha
    have := (hpsl x hx).1
    simp at hbm
    omega
  · rw [List.map_append, List.nodup_append]
    refine ⟨hb.ds, by simp, fun a ha b hbm => ?_⟩
    obtain ⟨x, hx, rfl⟩ := List.mem_map.1 ha
    have := (hpsl x hx).2
    simp at hbm
    omega
end Go.Proofs.YtgjbafongiocbaaDoor
