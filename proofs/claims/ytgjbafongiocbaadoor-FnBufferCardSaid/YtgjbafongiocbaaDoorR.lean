/-
  PROVED: laws.FnBuffer returns true for every page size, every slice of pieces, every place to read from and every size to read by, and each argument reads afterwards as it read before.
  CONDITIONS: those of the given card, and none of mine: io.EOF holds, when the call begins, what the program's text lays in it; the card ties this to the text of a pruned copy of the project. The full statement, not the one for small inputs.
-/
import Derived.Test.YtgjbafongiocbaaDoorQ
import Derived.Test.YtgjbafongiocbaaDoorCards
import Derived.Test.YtgjbafongiocbaaDoorTie
import Derived.OpenShut
import Derived.Deep.DeepHandedRow
import Derived.Deep.Slices
import Derived.Deep.Fields
import Derived.ChangeSame
import Derived.ChangeSlices
import Derived.LaidLaws
import Derived.Lay
import Derived.Carry
namespace Go.Proofs.YtgjbafongiocbaaDoor
open Go.ChangeShapes Go.WideShapes Go.ChangeAt Go.RowKit Go.Deep

section
variable {H : Type} {enc : TypeId × Value → H} {P : Program} {w : World} {base : Nat} {spare : Nat → Bool} {held : Bool}
theorem open_slice_fields {t e : TypeId} {fs : Array Field} {fuel : Nat} {cs : List Value} {x : DataW H × List MemPlace} (ht : P.underlying t = some (.slice e)) (he : P.underlying e = some (.struct fs))
    (hone : oneCellFields P fs = true) (hC : P.cellsOf e = fs.size) (h : DataW.trod enc P w base spare held fuel t cs = some x) :
    (cs = [.slice none 0 0] ∧ x = (.nil, [])) ∨
    ∃ (a : Addr) (len cap m : Nat) (D : Nat → DataW H) (Pl : Nat → List MemPlace), cs = [.slice (some a) len cap] ∧ base ≤ a.block ∧ len ≤ cap ∧ cap ≤ maxLen ∧ m = (if spare a.block then cap else len) ∧
      x = (.slice ((List.range len).map D) ((List.range (m - len)).map fun j => D (len + j)), MemPlace.row a (m * fs.size) ++ (List.range m).flatMap Pl) ∧
      ∀ i, i < m → ∃ (ys : List (DataW H × List MemPlace)) (n : Nat), D i = .agg (ys.map (·.1)) ∧ Pl i = ys.flatMap (·.2) ∧ ys.length = fs.size ∧
        ∀ (j : Nat) (f : Field), fs[j]? = some f → ∃ (v : Value) (y : DataW H × List MemPlace), w.cell? (a.add (i * fs.size + j)) = some v ∧ ys[j]? = some y ∧ DataW.trod enc P w base spare held n f.type [v] = some y := by
  rcases open_slice ht h with h0 | ⟨a, len, cap, m, n, D, Pl, hcs, hb, hl, hm, hmm, hx, hi⟩
  · exact .inl h0
  · refine .inr ⟨a, len, cap, m, D, Pl, hcs, hb, hl, hm, hmm, by rw [hC] at hx; exact hx, fun i him => ?_⟩
    obtain ⟨cs', hc, ht'⟩ := hi i him
    rw [hC] at hc
    obtain ⟨ys, n', hn', hy, hlen, hyl, hf⟩ := DataW.trod_struct he ht'
    obtain ⟨_, hcl, hat⟩ := World.cells?_some hc
    simp only [Prod.mk.injEq] at hy
    refine ⟨ys, n', hy.1, hy.2, hyl, fun j f hj => ?_⟩
    obtain ⟨ho, hk⟩ := hone_of hone j f hj
    have hjl : j < fs.size := (Array.getElem?_eq_some_iff.1 hj).1
    have hcell := hat j hjl
    have hv : cs'[j]? = some (cs'[j]'(by omega)) := List.getElem?_eq_getElem (by omega)
    have h1 := hf j f hj
    rw [ho, hk] at h1
    have hone' : (cs'.drop j).take 1 = [cs'[j]'(by omega)] := by
      rw [List.drop_eq_getElem_cons (by omega)]
      rfl
    rw [hone'] at h1
    have hys : ys[j]? = some (ys[j]'(by omega)) := List.getElem?_eq_getElem (by omega)
    refine ⟨_, _, ?_, hys, h1.trans hys⟩
    rw [← Go.Deep.add_add, hcell, hv]

theorem post_of_below {f : Func} {s : ChangeSpec} {apart fresh handsOn again : Bool} {W W' : World} {args : Array Value} {v : Value} {ds gs : List (DataW H)} {before pa pv : List MemPlace}
    (hW : DataW.Whole enc P f.params.toList s.vars apart W args.toList ds gs before)
    (hres : ∀ (b : Nat) (sp : Nat → Bool) (hd : Bool), DataW.TrodAll enc P W' b sp hd f.resultTypes.toList (v.resultList f.resultTypes.size) (s.fn H (ds ++ gs)).results [])
    (hargs : ∀ sp : Nat → Bool, (∀ p ∈ before, sp p.block = true) → DataW.TrodAll enc P W' 0 sp true f.params.toList args.toList (s.fn H (ds ++ gs)).args pa)
    (hvars : ∀ sp : Nat → Bool, (∀ p ∈ before, sp p.block = true) → DataW.TrodVars enc P W' sp s.vars (s.fn H (ds ++ gs)).vars pv)
    (hps : before = pa ++ pv) (hb : Below W.heap.size W W')
    (hok : ∀ (j : Nat) (t : TypeId) (r : Value), f.resultTypes[j]? = some t → (v.resultList f.resultTypes.size)[j]? = some r → Value.okWide P W' .any 0 t r) :
    s.post enc P f apart fresh handsOn again W args v W' := by
  have hlt : ∀ p ∈ before, p.block < W.heap.size := fun p hp => hW.lt p hp
  have hold : ∀ p ∈ before, (fun b => decide (b < W.heap.size)) p.block = true := fun p hp => by simpa using hlt p hp
  refine ⟨ds, gs, before, [], pa, pv, hW, hres _ _ _, hargs _ hold, hvars _ hold, World.keptBut_mono (fun p hp => ⟨hp, ?_⟩) (hb.frame (· ∈ before)), fun _ => ?_⟩
  · rw [hps, List.mem_append] at hp
    exact Or.inr hp
  · obtain ⟨_, _, _, _, _, hz, hn⟩ := hW
    refine ⟨hok, _, _, ([] ++ pa) ++ pv, ⟨[] ++ pa, pv, trodAll_append (hargs _ (fun _ _ => rfl)) (hres _ _ _), hvars _ (fun _ _ => rfl), rfl, ?_, ?_⟩, ?_⟩
    · intro b off hp
      have hin : MemPlace.cell b off ∈ before := by rw [hps]; simpa using hp
      rw [hb.frozen (hlt _ hin)]
      exact hz b off hin
    · intro ha
      have := hn ha
      rw [hps] at this
      simpa using this
    · intro p hp _
      rw [hps]
      simpa using hp
end

theorem own : ownKnob Tryd.prog.godebug = none := by kernel_rfl
theorem eofAt : Tryd.prog.globalNamed "io.EOF" = some 0 := by kernel_rfl
theorem eofType : (Tryd.prog.globals[0]?).map (·.type) = some 41 := by kernel_rfl
theorem star : "*" ++ "errors.errorString" = "*errors.errorString" := by decide
theorem cells78 : Tryd.prog.cellsOf 78 = 1 := by kernel_rfl
theorem cells9 : Tryd.prog.cellsOf 9 = 1 := by kernel_rfl
theorem cells5 : Tryd.prog.cellsOf 5 = 1 := by kernel_rfl
theorem laidOut : laidOutB Tryd.prog = true := by kernel_rfl
theorem rec22 : Tryd.prog.readableRec 22 = true := by kernel_rfl
theorem row22 : (22 : TypeId) < Tryd.prog.types.size := of_decide_eq_true (by kernel_rfl)
theorem eofDyn (u : TypeId) (h : Tryd.prog.typeName? 3 u = some "*errors.errorString") : u = 61 :=
  typeName_ptr_named (nm := "errors.errorString") (by rw [star]; kernel_rfl) (by kernel_rfl) (by decide) u (by rw [star]; exact h)

/-- What the row's list gives: io.EOF holds a pointer to an errors.errorString. -/
theorem eof_cell {W : World} (h : laidMetH Tryd.prog Rows.fnBufferRow.laid W) : ∃ ea : Addr, W.cell? ⟨0, 0, none⟩ = some (.iface 61 (.pointer (some ea))) := by
  have h' : laidMet Tryd.prog [("io.EOF", Rows.laid_io_EOF)] W := h
  obtain ⟨ps, ⟨g0, t0, cs0, f0, p0, q0, hg0, ht0, hv0, hd0, hq0, e0⟩, hnd, hrows⟩ := h'
  obtain rfl := Option.some.inj (eofAt.symm.trans hg0)
  obtain rfl := Option.some.inj (eofType.symm.trans ht0)
  subst e0
  obtain ⟨l0⟩ := cs0
  have ok0 : ∀ u v, l0 = [.iface u v] → Value.okWide Tryd.prog W .any 0 u v := fun u v e => by
    subst e
    exact (hrows 0 0 (by simp [MemPlace.row])).2 u v (by simpa using World.var?_cell eofAt hv0 0)
  obtain ⟨a0, s0, rfl, _⟩ := errorString_of_trod Tryd.underlying41 eofDyn Tryd.underlying61 Tryd.underlying78 rfl rfl Tryd.underlying9 cells78 cells9 hd0 ok0
  exact ⟨a0, by simpa using World.var?_cell eofAt hv0 0⟩

theorem list_choice {α : Type} {n : Nat} {Q : Nat → α → Prop} (h : ∀ i, i < n → ∃ x, Q i x) : ∃ l : List α, l.length = n ∧ ∀ i x, l[i]? = some x → Q i x := by
  refine ⟨List.ofFn (fun i : Fin n => Classical.choose (h i i.2)), by simp, fun i x hx => ?_⟩
  obtain ⟨hi, rfl⟩ := List.getElem?_eq_some_iff.1 hx
  simp only [List.getElem_ofFn]
  exact Classical.choose_spec (h i (by simpa using hi))

section
variable {H : Type} {enc : TypeId × Value → H} {W : World}

/-- One piece's data, opened. -/
theorem data_of {fuel : Nat} {v : Value} {y : DataW H × List MemPlace} (h : DataW.trod enc Tryd.prog W 0 (fun _ => true) true fuel 24 [v] = some y) :
    ∃ (A : Option Addr) (n c : Nat) (xs : List Value), v = .slice A n c ∧ Reads W W.heap.size 1 A n xs ∧ n ≤ 9223372036854775807 ∧ ∀ u ∈ xs, ∃ x : Int, u = .int .u8 x := by
  rcases open_ints Tryd.underlying24 Tryd.underlying5 cells5 h with ⟨hv, _⟩ | ⟨a, len, cap, zs, hv, _, hl, hm, hz, _, hc, _⟩
  · simp only [List.cons.injEq, and_true] at hv
    exact ⟨none, 0, 0, [], hv, Reads.none_, by omega, by simp⟩
  · simp only [List.cons.injEq, and_true] at hv
    simp only [if_true] at hz
    refine ⟨some a, len, cap, (zs.take len).map (Value.int .u8), hv, ⟨by simp; omega, fun hn => ⟨a, rfl, ?_, fun j u hu => ?_⟩⟩, by unfold maxLen at hm; omega, fun u hu => ?_⟩
    · have := World.block_lt_of_cell? W _ (hc 0 (by omega))
      rwa [block_of_add] at this
    · rw [List.getElem?_map, Option.map_eq_some_iff] at hu
      obtain ⟨z, hz', rfl⟩ := hu
      have hj : j < len := by
        have := (List.getElem?_eq_some_iff.1 hz').1
        rw [List.length_take] at this
        omega
      rw [List.getElem?_take_of_lt hj] at hz'
      have := hc j (by omega)
      simpa [List.getD, hz'] using this
    · obtain ⟨z, _, rfl⟩ := List.mem_map.1 hu
      exact ⟨z, rfl⟩

/-- The argument, opened: the pieces. -/
theorem pieces_of {fuel : Nat} {cs : List Value} {x : DataW H × List MemPlace} (h : DataW.trod enc Tryd.prog W 0 (fun _ => true) true fuel 22 cs = some x) :
    ∃ (A : Option Addr) (ps : List Pc) (c : Nat), cs = [.slice A ps.length c] ∧ Pieces W W.heap.size A ps ∧ ps.length ≤ 9223372036854775807 := by
  rcases open_slice_fields Tryd.underlying22 Tryd.underlying26 (by kernel_rfl) (by kernel_rfl) h with ⟨rfl, _⟩ | ⟨a, len, cap, m, D, Pl, rfl, _, hl, hm, hmm, _, hi⟩
  · exact ⟨none, [], 0, rfl, ⟨by simp, by simp⟩, by simp⟩
  · simp only [if_true] at hmm
    have piece : ∀ i, i < len → ∃ p : Pc, (W.cell? (a.add (i * 3 + 0)) = some p.val ∧ W.cell? (a.add (i * 3 + 1)) = some (.bool p.cut) ∧ W.cell? (a.add (i * 3 + 2)) = some (.int .i64 p.pos)) ∧
        Reads W W.heap.size 1 p.A p.n p.xs ∧ p.n ≤ 9223372036854775807 ∧ ∀ u ∈ p.xs, ∃ x : Int, u = .int .u8 x := by
      intro i hil
      obtain ⟨ys, n, _, _, _, hf⟩ := hi i (by omega)
      obtain ⟨v0, y0, c0, _, t0⟩ := hf 0 _ rfl
      obtain ⟨v1, y1, c1, _, t1⟩ := hf 1 _ rfl
      obtain ⟨v2, y2, c2, _, t2⟩ := hf 2 _ rfl
      obtain ⟨A, n0, cc, xs, rfl, hR, hn, hu⟩ := data_of t0
      obtain ⟨b, hb, _⟩ := DataW.trod_bool Tryd.underlying4 t1
      obtain ⟨z, hz, _, _⟩ := DataW.trod_int Tryd.underlying3 t2
      simp only [List.cons.injEq, and_true] at hb hz
      subst hb hz
      exact ⟨⟨A, n0, cc, xs, b, z⟩, ⟨c0, c1, c2⟩, hR, hn, hu⟩
    obtain ⟨ps, rfl, hps⟩ := list_choice piece
    refine ⟨some a, ps, cap, rfl, ⟨fun h0 => ?_, fun p hp => ?_⟩, by unfold maxLen at hm; omega⟩
    · obtain ⟨p, hp⟩ : ∃ p, ps[0]? = some p := ⟨ps[0], List.getElem?_eq_getElem h0⟩
      have k0 := (hps 0 p hp).1.1
      obtain ⟨b, off, spot⟩ := a
      have hspot : spot = none := by simpa [Addr.add] using World.cell?_spot k0
      subst hspot
      refine ⟨b, off, rfl, World.block_lt_of_cell? W _ k0, fun k p hp => ?_⟩
      obtain ⟨⟨c0, c1, c2⟩, _⟩ := hps k p hp
      simp only [Go.WideShapes.add_plain, ← Nat.add_assoc, Nat.add_zero] at c0 c1 c2
      exact ⟨c0, c1, c2⟩
    · obtain ⟨i, hi'⟩ := List.getElem?_of_mem hp
      exact (hps i p hi').2
end

/-- What the walk gives, for every argument and every world that holds io.EOF. -/
theorem contract (H : Type) (enc : TypeId × Value → H) (W : World) (base : Nat) (args : Array Value) (ds gs : List (DataW H)) (before : List MemPlace)
    (hval : ∀ (j : Nat) t v, Tryd.f3.params[j]? = some t → args[j]? = some v → Value.okWide Tryd.prog W .any base t v)
    (hW : DataW.Whole enc Tryd.prog Tryd.f3.params.toList Rows.fnBufferSpec.vars false W args.toList ds gs before) (hL : laidMetH Tryd.prog Rows.fnBufferRow.laid W) :
    Calls Tryd.prog 3 args W fun e W' => ∃ v, e = .returned v ∧ Rows.fnBufferSpec.post enc Tryd.prog Tryd.f3 false true false false W args v W' := by
  have hW' := hW
  obtain ⟨p, q, hA0, hV, rfl, hfz, hnd⟩ := hW
  have hA : DataW.TrodAll enc Tryd.prog W 0 (fun _ => true) true Tryd.f3.params.toList args.toList ds p := hA0
  rw [Tryd.params3] at hA hval
  obtain ⟨v0, vs0, d0, ds0, p0, q0, hargs, rfl, rfl, h0, r0⟩ := trodAll_cons hA
  obtain ⟨v1, vs1, d1, ds1, p1, q1, rfl, rfl, rfl, h1, r1⟩ := trodAll_cons r0
  obtain ⟨v2, vs2, d2, ds2, p2, q2, rfl, rfl, rfl, h2, r2⟩ := trodAll_cons r1
  obtain ⟨v3, vs3, d3, ds3, p3, q3, rfl, rfl, rfl, h3, r3⟩ := trodAll_cons r2
  obtain ⟨rfl, rfl, rfl⟩ := trodAll_nil r3
  obtain rfl : args = #[v0, v1, v2, v3] := by cases args; simp_all
  obtain ⟨rfl, rfl⟩ := trodVars_none hV
  obtain ⟨page, rfl, rfl, rfl, w0⟩ := open_int Tryd.underlying3 (hval 0 3 v0 rfl rfl) h0
  obtain ⟨A, n, c, rfl⟩ := okWide_slice Tryd.underlying22 (hval 1 22 v1 rfl rfl)
  obtain ⟨fr, rfl, rfl, rfl, w2⟩ := open_int Tryd.underlying3 (hval 2 3 v2 rfl rfl) h2
  obtain ⟨size, rfl, rfl, rfl, w3⟩ := open_int Tryd.underlying3 (hval 3 3 v3 rfl rfl) h3
  clear hA0 hA r0 r1 r2 r3 h0 h2 h3 hV hargs hval
  simp only [List.append_nil, List.nil_append] at hW'
  have h1' := h1
  obtain ⟨fuel, hf⟩ := h1
  obtain ⟨A', ps, c', hcs, hP, hpl⟩ := pieces_of hf
  simp only [Value.cells, List.cons.injEq, Value.slice.injEq, and_true] at hcs
  obtain ⟨rfl, rfl, rfl⟩ := hcs
  obtain ⟨ea, hE⟩ := eof_cell hL
  have hlt : ∀ x ∈ p1, x.block < W.heap.size := fun x hx => hW'.lt x hx
  refine (law_any A ps c page fr size hP hpl hE).mono fun e W' ⟨he, hg⟩ => ?_
  subst he
  have hb : Below W.heap.size W W' := (Below.refl _ _).grown hg (Nat.le_refl _) (by simp)
  exact ⟨_, rfl, post_of_below (pa := [] ++ (p1 ++ ([] ++ ([] ++ [])))) (pv := []) hW' (fun _ _ _ => trodAll_cons_mk (shut_bool Tryd.underlying4 _) trodAll_mk0)
    (fun sp hsp => trodAll_cons_mk (shut_int Tryd.underlying3 w0) (trodAll_cons_mk (WideElems.Trod_stays laidOut rec22 row22 h1' (fun x hx => hb.same (hlt x hx)) (fun x hx => hsp x hx))
      (trodAll_cons_mk (shut_int Tryd.underlying3 w2) (trodAll_cons_mk (shut_int Tryd.underlying3 w3) trodAll_mk0))))
    (fun _ _ => rfl) (by simp) hb (ok_one (by kernel_rfl) rfl (okWide_bool_mk Tryd.underlying4 _))⟩

/-- A world for the witness: the settled one, io.EOF as the row lists it. -/
noncomputable def laidWorld (os : Os) : World := World.laidAll Tryd.prog os [("io.EOF", Rows.laid_io_EOF)]
abbrev witArgs : Array Value := #[.int .i64 0, .slice none 0 0, .int .i64 0, .int .i64 0]
theorem laid_met (os : Os) : laidMet Tryd.prog Rows.fnBufferRow.laid ((laidWorld os).forCall (fun _ _ => 0) ⟨#[], witArgs, []⟩).memory :=
  laidMet_laidAll witArgs (by kernel_rfl) (by kernel_rfl)
theorem reads (os : Os) {H : Type} (enc : TypeId × Value → H) : ∃ places, DataW.whole enc Tryd.prog ((laidWorld os).forCall (fun _ _ => 0) ⟨#[], witArgs, []⟩).memory Tryd.f3.params.toList Rows.fnBufferSpec.vars false witArgs.toList 8 = some ([.lit (.int .i64 0), .nil, .lit (.int .i64 0), .lit (.int .i64 0)], [], places) :=
  ⟨[], by kernel_rfl⟩

set_option maxRecDepth 100000 in
theorem lifted (os : Os) (started : os.Started) (H : Type) (enc : TypeId × Value → H) (F : Stop.Interp) :
    ReturnsInHanded {} Tryd.checked os 3 .any ((OpenSpec.ofChange Rows.fnBufferSpec).preRow enc Tryd.prog Tryd.f3 Rows.fnBufferRow.domain false Rows.fnBufferRow.laid) (((OpenSpec.ofChange Rows.fnBufferSpec).at F).post enc Tryd.prog Tryd.f3 false true false false) := by
  obtain ⟨places, hx⟩ := reads os enc
  refine returnsInHanded_of_row (C := Tryd.checked) (s := OpenSpec.ofChange Rows.fnBufferSpec) own started (by kernel_rfl) Tryd.func3
    (witness_row_at (enc := enc) (C := Tryd.checked) false (laidWorld os) witArgs rfl (by kernel_rfl) (by kernel_rfl) (by kernel_rfl)
      (OpenSpec.preRow_of_cond 8 hx (by kernel_rfl) (fun k hk => by cases hk) (by kernel_rfl) (laid_met os))) ?_
  intro W base args ds gs before hval hW _ _ _ hL _ _
  exact contract H enc W base args ds gs before hval hW hL

theorem said : Rows.FnBufferSaid :=
  OpenClaim.holds_of_cond 3 Tryd.f3 rfl rfl rfl rfl rfl rfl rfl ⟨rfl, rfl, rfl, rfl, rfl⟩ rfl rfl rfl rfl rfl (by kernel_rfl) Tryd.func3 (by kernel_rfl)
    (of_decide_eq_true (by kernel_rfl)) (by unfold Func.isWrapper; first | (rw [if_pos (by decide +kernel)]; kernel_rfl) | (rw [if_neg (by decide +kernel)]; exact ⟨rfl, rfl⟩))
    (fun os started H enc _ F => by rw [OpenClaim.pre_eq_preRow]; exact lifted os started H enc F)

/-- No parameter wants a stand-in; the program's own looks are on: what the card asks. -/
theorem plain (f : FuncId) (fn : Func) (hf : Tryd.pinned.checked.prog.funcNamed "loop.example/pub-g01501/laws.FnBuffer" = some f) (hfn : Tryd.pinned.checked.prog.funcs[f]? = some fn) :
    true = Tryd.pinned.checked.prog.looks [] ∧ ∀ (j : Nat) t, fn.params[j]? = some t → Tryd.pinned.checked.prog.wantsStandIn t = false := by
  obtain rfl : f = 3 := Option.some.inj ((show Tryd.prog.funcNamed "loop.example/pub-g01501/laws.FnBuffer" = some 3 by kernel_rfl).symm.trans hf) |>.symm
  obtain rfl : fn = Tryd.f3 := (Option.some.inj (Tryd.func3.symm.trans hfn)).symm
  refine ⟨by kernel_rfl, fun j t ht => ?_⟩
  rw [Tryd.params3] at ht
  have hm : t = 3 ∨ t = 22 := by
    have := Array.mem_of_getElem? ht
    simp only [List.mem_toArray, List.mem_cons, List.not_mem_nil, or_false] at this
    rcases this with e | e | e | e
    · exact .inl e
    · exact .inr e
    · exact .inl e
    · exact .inl e
  rcases hm with rfl | rfl
  · exact (show Tryd.prog.wantsStandIn 3 = false by kernel_rfl)
  · exact (show Tryd.prog.wantsStandIn 22 = false by kernel_rfl)

/-- The card. -/
theorem fnBuffer_card : Rows.FnBufferCardSaid :=
  Claim7.holds_tied_plain_at .later [] _ _ _ _ said (fun _ h => by cases h) (by kernel_rfl) (fun _ h => by cases h) fnBuffer_row_tie rfl ⟨rfl, rfl⟩ (by kernel_rfl) rfl plain (by kernel_rfl)
end Go.Proofs.YtgjbafongiocbaaDoor
