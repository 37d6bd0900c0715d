/- A law for copy, as one step of a region that draws its order; and the state of the loop that writes. -/
import Derived.Test.YtgjbafongiocbaaDoorK2
import Derived.StillTailTactics
import Derived.Deep.LoopGhost
namespace Go.Proofs.YtgjbafongiocbaaDoor
open Go.RowKit

theorem step_copy {P : Program} {ops : Array Oper} {o : Oper} {a : Act} {w : World} {K : Act → World → Prop} {Q : Exit → Act → World → Prop} {E : Prop} (hgd : o.guard = none) (d s : Operand) (dT sT : TypeId)
    (ho : o.op = .call { callee := .builtin .copy, args := #[d, s], argTypes := #[dT, sT] }) (elem : TypeId) (hu : P.underlying dT = some (.slice elem)) (hsz : (P.info? elem).map (·.size) = some 1)
    (dp sp : Option Addr) (dLen dCap sLen sCap : Nat) (hd : a.eval d = .slice dp dLen dCap) (hs : a.eval s = .slice sp sLen sCap)
    (g off : Nat) (cur : List Value) (t : TypeId) (hg : w.heap[g]? = some (.cells cur.toArray t (0, 0))) (cs : List Value) (hn : cs.length = Nat.min sLen dLen)
    (hpos : 0 < cs.length → dp = some ⟨g, off, none⟩ ∧ ∃ ad, sp = some ad ∧ ∀ j v, cs[j]? = some v → w.cell? (ad.add j) = some v)
    (hfit : off + cs.length ≤ cur.length) (h1 : ∀ v ∈ cs, v.oneCell' = true)
    (h : ∀ w', Hid (w'.heap[g]? = some (.cells (splice cur off cs).toArray t (0, 0))) → w.grownBy w' (some g) → K (a.put o.dst (goInt cs.length)) w') :
    if Region.wanted o (yielded ops a.tmps) = true then Oper.wp P o a w K Q else E := by
  have hw : Region.wanted o (yielded ops a.tmps) = true := by simp [Region.wanted, hgd]
  rw [if_pos hw]
  by_cases h0 : cs.length = 0
  · obtain rfl : cs = [] := List.eq_nil_of_length_eq_zero h0
    have hrun := run_copy_none (P := P) w dT sT o.type elem dp sp dLen dCap sLen sCap hu hsz (by simpa using hn.symm)
    unfold Oper.wp
    simp [execOp, ho, resolve, invoke, builtin, hd, hs, hrun, Result.andThen]
    exact h w (show _ = _ by simpa [splice] using hg) (World.grownBy.refl w _)
  · obtain ⟨rfl, ad, rfl, hsrc⟩ := hpos (by omega)
    have hrun := run_copy_row (P := P) w dT sT o.type elem g off dLen dCap ad sLen sCap cur.toArray t cs hu hsz hg hn hsrc (by simpa using hfit) h1
    unfold Oper.wp
    simp [execOp, ho, resolve, invoke, builtin, hd, hs, hrun, Result.andThen]
    exact h _ (show _ = _ by simpa [splice] using setRow_heap w g _ _ t _ hg) ⟨rfl, rfl, rfl, by simp [World.setRow], fun k hk hne => setRow_other w g k _ (fun e => hne (by rw [e]))⟩

/-- The loop that writes: at most k rounds are to come; 'v' is what is still to be written. -/
def WS (w0 : World) (base B M : Nat) (bs xs : List Value) (D k : Nat) (v : Value) (wr : World) : Prop :=
  ∃ pa pc ps l next A n c ys zs, v = .slice A n c ∧ Buf wr base B pa pc (ps ++ [l]) next ∧ (∀ p ∈ ps, p.xs.length = p.cap) ∧ bytesOf (ps ++ [l]) = bs ++ ys ∧ xs = ys ++ zs ∧
    Reads wr wr.heap.size 1 A n zs ∧ (∀ ad, A = some ad → ad.block = D ∧ ∃ cur, Blk wr D 5 cur) ∧ n ≤ c ∧ c ≤ maxLen ∧ (∀ p ∈ ps ++ [l], p.d ≠ D) ∧ 0 < next ∧ next ≤ M ∧ (2 * l.cap = next ∨ 2 * next ≤ M) ∧ Kept base w0 wr ∧
    2 * n + (if l.xs.length = l.cap then 1 else 0) ≤ k

theorem Kept.refl (base : Nat) (w : World) : Kept base w w := ⟨Below.refl _ _, fun _ _ _ h _ => h⟩
theorem Kept.trans {base : Nat} {a b c : World} (h : Kept base a b) (k : Kept base b c) : Kept base a c := ⟨h.below.trans k.below, fun i t cs hi ht => k.other i t cs (h.other i t cs hi ht) ht⟩

theorem kept_fill {w1 w' : World} {base B pa pc next : Nat} {ps : List Pg} {l : Pg} (hb : Buf w1 base B pa pc (ps ++ [l]) next) (ho : Only (fun k => k = B ∨ k = l.g ∨ k = l.d) w1 w') : Kept base w1 w' := by
  have hl := hb.each l (by simp)
  obtain ⟨cur, hcur, _⟩ := hl.cur
  refine ⟨ho.below (Nat.le_trans hb.ge (Nat.le_of_lt hb.blk.lt)) ?_, fun k t cs hk ht => hk.only ho ?_⟩
  · rintro k (rfl | rfl | rfl)
    · exact hb.ge
    · exact hl.g_ge
    · exact hl.le.2.2
  · rintro (h1 | h1 | h1)
    · exact hk.ne_ hb.blk (by rw [ht]; decide) h1
    · exact hk.ne_ hl.blk (by rw [ht]; decide) h1
    · exact hk.ne_ hcur (by rw [ht]; decide) h1
theorem kept_grow {w1 w' : World} {base B pa pc next : Nat} {ps : List Pg} (hb : Buf w1 base B pa pc ps next) (ho : Only (fun k => k = B ∨ k = pa) w1 w') : Kept base w1 w' := by
  obtain ⟨cur, hcur, _, _, _, hge, _⟩ := own_blk hb.row
  refine ⟨ho.below (Nat.le_trans hb.ge (Nat.le_of_lt hb.blk.lt)) ?_, fun k t cs hk ht => hk.only ho ?_⟩
  · rintro k (rfl | rfl)
    · exact hb.ge
    · exact hge
  · rintro (h1 | h1)
    · exact hk.ne_ hb.blk (by rw [ht]; decide) h1
    · exact hk.ne_ hcur (by rw [ht]; decide) h1

def Wrote (base B M : Nat) (bs xs : List Value) (w0 : World) (e : Ending) (w' : World) : Prop :=
  e = .returned (.tuple #[.int .i64 xs.length, .nilIface]) ∧ PB w' base B M (bs ++ xs) ∧ Kept base w0 w'

/-- The same, and none of its arrays is D. -/
def PBd (w : World) (base B M D : Nat) (bs : List Value) : Prop :=
  ∃ pa pc ps l next, Buf w base B pa pc (ps ++ [l]) next ∧ (∀ p ∈ ps, p.xs.length = p.cap) ∧ bytesOf (ps ++ [l]) = bs ∧ 0 < next ∧ next ≤ M ∧ (2 * l.cap = next ∨ 2 * next ≤ M) ∧ ∀ p ∈ ps ++ [l], p.d ≠ D
theorem PB.beside {w w' : World} {base B M D : Nat} {bs : List Value} (h : PB w base B M bs) (hg : w.grownBy w' none) (hD : w.heap.size ≤ D) : PBd w' base B M D bs := by
  obtain ⟨pa, pc, ps, l, next, hb, hf, hbs, h0, h1, h2⟩ := h
  exact ⟨pa, pc, ps, l, next, hb.grown hg, hf, hbs, h0, h1, h2, fun p hp => by have := (hb.lt.2.2 p hp).2; omega⟩

theorem write_out {w0 w1 w' : World} {base B M pa pc next n : Nat} {ps : List Pg} {l : Pg} {bs xs ys zs cs : List Value} (hb1 : Buf w1 base B pa pc (ps ++ [l]) next)
    (hE : Buf w' base B pa pc (ps ++ [{ l with xs := l.xs ++ cs }]) next ∧ Only (fun k => k = B ∨ k = l.g ∨ k = l.d) w1 w') (hf : ∀ p ∈ ps, p.xs.length = p.cap) (hbs : bytesOf (ps ++ [l]) = bs ++ ys) (hxs : xs = ys ++ zs) (hzs : cs = zs)
    (h0 : 0 < next) (h1 : next ≤ M) (h2 : 2 * l.cap = next ∨ 2 * next ≤ M) (hk : Kept base w0 w1) (hn : xs.length = n) : Wrote base B M bs xs w0 (.returned (.tuple #[.int .i64 n, .nilIface])) w' := by
  refine ⟨by rw [hn], ⟨pa, pc, ps, _, next, hE.1, hf, ?_, h0, h1, h2⟩, hk.trans (kept_fill hb1 hE.2)⟩
  rw [bytesOf_last] at hbs ⊢
  rw [hxs, hzs, ← List.append_assoc, ← List.append_assoc, ← hbs]

theorem Reads.keepD {w w' : World} {Bd size n : Nat} {A : Option Addr} {xs : List Value} (h : Reads w Bd size A n xs) (hk : ∀ ad, A = some ad → w'.heap[ad.block]? = w.heap[ad.block]?) : Reads w' Bd size A n xs :=
  ⟨h.1, fun hn => by
    obtain ⟨ad, e, hb, hc⟩ := h.2 hn
    exact ⟨ad, e, hb, fun j u hu => (World.cell?_of_block (w := w) (a := ad.add j) (by rw [block_of_add]; exact hk ad e)).trans (hc j u hu)⟩⟩

theorem ws_next {w0 w1 w4 w6 : World} {base B M pa pc next n c q D gg cap k : Nat} {ps : List Pg} {l : Pg} {bs xs ys zs cs : List Value} {A : Option Addr} (hb1 : Buf w1 base B pa pc (ps ++ [l]) next)
    (hb4 : Buf w4 base B pa pc (ps ++ [{ l with xs := l.xs ++ cs }]) next) (ho4 : Only (fun k => k = B ∨ k = l.g ∨ k = l.d) w1 w4)
    (hE6 : Buf w6 base B gg cap ((ps ++ [{ l with xs := l.xs ++ cs }]) ++ [⟨w4.heap.size + 1, w4.heap.size, next, []⟩]) (2 * next) ∧ Only (fun k => k = B ∨ k = pa) w4 w6)
    (hr : Reads w1 w1.heap.size 1 A n zs) (hA : ∀ ad, A = some ad → ad.block = D ∧ ∃ cur, Blk w1 D 5 cur) (hf : ∀ p ∈ ps, p.xs.length = p.cap) (hbs : bytesOf (ps ++ [l]) = bs ++ ys) (hxs : xs = ys ++ zs) (hcs : cs = zs.take q)
    (hq : q = Nat.min n (l.cap - l.xs.length)) (hqn : q < n) (hc : n ≤ c) (hcm : c ≤ maxLen) (hD : ∀ p ∈ ps ++ [l], p.d ≠ D) (h0 : 0 < next) (h2 : 2 * l.cap = next ∨ 2 * next ≤ M) (hk : Kept base w0 w1)
    (hM : 72000 ≤ M) (hlen : bs.length + xs.length ≤ 18000) (hme : 2 * (n - q) ≤ k) : WS w0 base B M bs xs D k (.slice (A.map fun x => x.add q) (n - q) (c - q)) w6 := by
  have hl := hb1.each l (by simp)
  obtain ⟨hle, _, _⟩ := hl.le
  have hzl : n = zs.length := by have := hr.1; omega
  have hcsl : cs.length = q := by rw [hcs, List.length_take]; omega
  have hqq : q = l.cap - l.xs.length := by
    have : Nat.min n (l.cap - l.xs.length) = n ∨ Nat.min n (l.cap - l.xs.length) = l.cap - l.xs.length := by simp only [Nat.min_def]; split <;> simp
    omega
  obtain ⟨ad, hAd, _, _⟩ := hr.2 (by omega)
  subst hAd
  obtain ⟨hDb, cur, hcur⟩ := hA ad rfl
  obtain ⟨cpa, hbpa, _⟩ := own_blk hb4.row
  obtain ⟨cl, hcl, _⟩ := hl.cur
  have hnD : ¬ (D = B ∨ D = l.g ∨ D = l.d) := by
    rintro (h | h | h)
    · exact hcur.ne_ hb1.blk (by decide) h
    · exact hcur.ne_ hl.blk (by decide) h
    · exact hD l (by simp) h.symm
  have hcur4 := hcur.only ho4 hnD
  have hnD6 : ¬ (D = B ∨ D = pa) := by
    rintro (h | h)
    · exact hcur4.ne_ hb4.blk (by decide) h
    · exact hcur4.ne_ hbpa (by decide) h
  have hcur6 := hcur4.only hE6.2 hnD6
  have hsame : w6.heap[D]? = w1.heap[D]? := by
    rw [hE6.2.block D hcur4.lt hnD6, ho4.block D hcur.lt hnD]
  refine ⟨gg, cap, ps ++ [{ l with xs := l.xs ++ cs }], _, 2 * next, _, n - q, c - q, ys ++ cs, zs.drop q, rfl, hE6.1, ?_, ?_, ?_, ?_, ?_, by omega, by omega, ?_, by omega, ?_, .inl rfl, ?_, ?_⟩
  · intro p hp
    rcases List.mem_append.1 hp with hp | hp
    · exact hf p hp
    · simp only [List.mem_singleton] at hp
      subst hp
      show (l.xs ++ cs).length = l.cap
      rw [List.length_append]; omega
  · rw [bytesOf_last, List.append_nil, bytesOf_last]
    rw [bytesOf_last] at hbs
    show bytesOf ps ++ (l.xs ++ cs) = _
    rw [← List.append_assoc, hbs, List.append_assoc]
  · rw [hxs, hcs, List.append_assoc, List.take_append_drop]
  · have h3 := hr.cut (k := q) (cap := c) (by omega) hc
    rw [if_neg (by omega), Nat.mul_one] at h3
    refine (h3.keepD (w' := w6) fun ad' e => ?_).more (Nat.le_trans ho4.size hE6.2.size)
    injection e with e
    rw [← e, block_of_add, hDb]
    exact hsame
  · intro ad' e
    injection e with e
    exact ⟨by rw [← e, block_of_add, hDb], cur, hcur6⟩
  · intro p hp
    rcases List.mem_append.1 hp with hp | hp
    · rcases List.mem_append.1 hp with hp | hp
      · exact hD p (List.mem_append_left _ hp)
      · simp only [List.mem_singleton] at hp
        subst hp
        exact hD l (by simp)
    · simp only [List.mem_singleton] at hp
      subst hp
      show w4.heap.size ≠ D
      have := hcur4.lt
      omega
  · rcases h2 with h2 | h2
    · have hfull : l.cap ≤ bs.length + (ys ++ cs).length := by
        have h5 : (bytesOf (ps ++ [l])).length = (bytesOf ps).length + l.xs.length := by rw [bytesOf_last, List.length_append]
        rw [hbs, List.length_append] at h5
        rw [List.length_append]
        omega
      have h6 : (ys ++ cs).length ≤ xs.length := by
        rw [hxs, hcs, List.length_append, List.length_append, List.length_take]
        omega
      omega
    · exact h2
  · exact (hk.trans (kept_fill hb1 ho4)).trans (kept_grow hb4 hE6.2)
  · rw [if_neg (by show ¬ (0 = next); omega)]
    omega

theorem measure_down {n q L C k : Nat} {l : Pg} (h : 2 * n + (if l.xs.length = l.cap then 1 else 0) ≤ k) (hq : q = Nat.min n (C - L)) (hlt : q < n) (hL : L = l.xs.length) (hC : C = l.cap) (hle : L ≤ C) : 2 * (n - q) < k := by
  have h1 : Nat.min n (C - L) = n ∨ Nat.min n (C - L) = C - L := by simp only [Nat.min_def]; split <;> simp
  subst hL hC
  split at h <;> omega

theorem size5 : (Tryd.prog.info? 5).map (·.size) = some 1 := by kernel_rfl

set_option maxRecDepth 100000 in
set_option maxHeartbeats 4000000 in
theorem write_any {w0 : World} {base B M D : Nat} {bs xs : List Value} (h : PBd w0 base B M D bs) (A : Option Addr) (n c : Nat) (hr : Reads w0 w0.heap.size 1 A n xs) (hu : ∀ u ∈ xs, u.oneCell' = true) (hA : ∀ ad, A = some ad → ad.block = D ∧ ∃ cur, Blk w0 D 5 cur)
    (hc : n ≤ c) (hcm : c ≤ maxLen) (hM : 72000 ≤ M) (hM2 : M ≤ 20000000) (hlen : bs.length + xs.length ≤ 18000) :
    Calls Tryd.prog 13 #[.pointer (some ⟨B, 0, none⟩), .slice A n c] w0 (Wrote base B M bs xs w0) := by
  have hxn : xs.length = n := by have := hr.1; omega
  have HXN := Lib.hid hxn
  clear hxn
  go_enter Tryd.func13, Tryd.ntmps13
  go_wp2_with fail
  go_loopg [1] (2 * n + 1) (fun k v wr => WS w0 base B M bs xs D k v wr)
  case atStart =>
    obtain ⟨pa, pc, ps, l, next, hb, hf, rfl, h0, h1, h2, hD⟩ := h
    exact ⟨pa, pc, ps, l, next, A, n, c, [], xs, rfl, hb, hf, by simp, rfl, hr, hA, hc, hcm, hD, h0, h1, h2, Kept.refl _ _, by split <;> omega⟩
  case round =>
    obtain ⟨pa, pc, ps, l, next, A', n', c', ys, zs, rfl, hb, hf, hbs, hxs, hr', hA', hc', hcm', hD', h0, h1, h2, hk, hme⟩ := hrel
    obtain ⟨m, hm⟩ : ∃ m, m = ps.length := ⟨_, rfl⟩
    have hptr : (ps ++ [l])[m]? = some l := by rw [hm]; simp
    obtain ⟨c0, c1, c2⟩ := hb.cell
    obtain ⟨d0, d1, d2, d3⟩ := hb.ptr hptr
    have hlm : (ps ++ [l]).length = m + 1 := by simp [hm]
    rw [hlm] at c0
    obtain ⟨hn1, hn2⟩ := hb.len_le
    rw [hlm] at hn1
    have hfl := full_len hb hf
    rw [hbs, List.length_append] at hfl
    have hxl := congrArg List.length hxs
    rw [List.length_append] at hxl
    have hzn : n' = zs.length := by have := hr'.1; omega
    have hm6 : m ≤ 18000 := by omega
    have hn6 : n' ≤ 18000 := by omega
    have hbl : (bytesOf (ps ++ [l])).length ≤ 18000 := by rw [hbs, List.length_append]; omega
    have hcap : l.cap ≤ 9223372036854775807 := by unfold maxLen at d3; omega
    have hcc : c' ≤ 9223372036854775807 := by unfold maxLen at hcm'; omega
    have HXL := Lib.hid hxl
    have HZN := Lib.hid hzn
    clear hxl hzn hfl
    have HM := Lib.hid hm
    have HPTR := Lib.hid hptr
    have HLM := Lib.hid hlm
    have HBS := Lib.hid hbs
    have HXS := Lib.hid hxs
    have HF := Lib.hid hf
    have HA' := Lib.hid hA'
    have HD' := Lib.hid hD'
    have H2 := Lib.hid h2
    have HME := Lib.hid hme
    have HU := Lib.hid hu
    clear hm hptr hlm hbs hxs hf hA' hD' h2 hme hA hu
    go_wp2_with fail
    go_quiet (fail)
    go_wp2_with fail
    refine forget (fun w' => Only (fun _ => False) wr w') ((Only.refl _ wr).drewN nq) ?_
    rintro w1 ho1
    have hb1 := hb.only ho1 id id (fun _ _ => ⟨id, id⟩)
    have hl1 := hb1.each l (by simp)
    obtain ⟨cur, hcur, hcurl, hcurt⟩ := hl1.cur
    have hr1 : Reads w1 w1.heap.size 1 A' n' zs := (hr'.keep fun a ha => World.cell?_of_block (w := wr) (ho1.block a.block ha id)).more ho1.size
    have hk1 : Kept base w0 w1 := hk.trans ⟨ho1.below (Nat.le_trans hb.ge (Nat.le_of_lt hb.blk.lt)) (fun _ h => h.elim), fun k t cs hkk _ => hkk.only ho1 id⟩
    have e1 : w1.cell? ⟨l.g, 0, none⟩ = some (.slice (some ⟨l.d, 0, none⟩) l.xs.length l.cap) := hl1.blk.cell 0
    have hndg : l.d ≠ l.g := hcur.ne_ hl1.blk (by decide)
    obtain ⟨L, hL⟩ : ∃ L, L = l.xs.length := ⟨_, rfl⟩
    obtain ⟨C, hC⟩ : ∃ C, C = l.cap := ⟨_, rfl⟩
    rw [← hL, ← hC] at e1
    rw [← hL, ← hC] at d2
    rw [← hC] at hcap hcurl
    have HL := Lib.hid hL
    have HC := Lib.hid hC
    have HCL := Lib.hid hcurl
    have HCT := Lib.hid hcurt
    have HA1 : Hid (∀ ad, A' = some ad → ad.block = D ∧ ∃ cur, Blk w1 D 5 cur) := fun ad e => ⟨(HA'.out ad e).1, by obtain ⟨cu, hcu⟩ := (HA'.out ad e).2; exact ⟨cu, hcu.only ho1 id⟩⟩
    clear hL hC hcurl hcurt c0 c1 c2 d0 d1 hb hk ho1 hr'
    have hg1 : Blk w1 l.g 55 #[.slice (some ⟨l.d, 0, none⟩) L C] := by rw [HL.out, HC.out]; exact hl1.blk
    have HG1 := Lib.hid hg1
    have hnBd : B ≠ l.d := hb1.blk.ne_ hcur (by decide)
    obtain ⟨q, hq⟩ : ∃ q, q = Nat.min n' (C - L) := ⟨_, rfl⟩
    have hqn : q ≤ n' := by rw [hq]; exact Nat.min_le_left _ _
    have hqc : q ≤ C - L := by rw [hq]; exact Nat.min_le_right _ _
    obtain ⟨cs, hcs⟩ : ∃ cs, cs = zs.take q := ⟨_, rfl⟩
    have hcsl : cs.length = q := by have := HZN.out; rw [hcs, List.length_take]; omega
    have hcsm : cs.length = Nat.min n' (C - L) := by rw [hcsl, hq]
    have HP1 : Hid (∀ dp : Option Addr, (L < C → dp = some ⟨l.d, L, none⟩) → (0 < cs.length → dp = some ⟨l.d, L, none⟩ ∧ ∃ ad, A' = some ad ∧ ∀ j v, cs[j]? = some v → w1.drew.cell? (ad.add j) = some v)) := by
      intro dp hdp h0
      obtain ⟨ad, hA0, _, hcell⟩ := hr1.2 (by omega)
      refine ⟨hdp (by omega), ad, hA0, fun j v hj => hcell j v ?_⟩
      rw [hcs, List.getElem?_take] at hj
      split at hj
      · exact hj
      · cases hj
    have HFT : Hid (L + cs.length ≤ cur.length) := by show _ ≤ _; rw [hcsl, HCL.out]; omega
    have HU1 : Hid (∀ v ∈ cs, v.oneCell' = true) := fun v hv => HU.out v (by rw [HXS.out]; exact List.mem_append_right _ (by rw [hcs] at hv; exact List.mem_of_mem_take hv))
    have HCS := Lib.hid hcs
    have HCSL := Lib.hid hcsl
    have HCSM := Lib.hid hcsm
    have HQ := Lib.hid hq
    clear hcs hcsl hcsm hq hg1
    by_cases hlt : L < C
    · have hne : C ≠ L := by omega
      go_region_held3 (fun w' => w'.cell? ⟨l.g, 0, none⟩ = some (.slice (some ⟨l.d, 0, none⟩) L C)) (first | exact e1 | exact (HG1.out.drew.grown hgr2 (by simp; omega)).cell 0)
        ((refine step_copy (by rfl) _ _ _ _ (by rfl) 5 Tryd.underlying24 size5 _ _ _ _ _ _ (by rfl) (by rfl) l.d L cur 5 (Blk.drew hcur) cs HCSM.out (HP1.out _ (fun _ => rfl)) HFT.out HU1.out ?_; rw [HCSL.out]; intro w2 HG2 hgr2))

      have hgr : w1.grownBy w2 (some l.d) := ⟨hgr2.os, hgr2.tape, hgr2.output, hgr2.size, hgr2.block⟩
      clear hgr2
      go_wp2_with fail
      have hg2 : Blk w2 l.g 55 #[.slice (some ⟨l.d, 0, none⟩) L C] := HG1.out.grown hgr (fun e => hndg (Option.some.inj e).symm)
      have e2 : w2.cell? ⟨l.g, 0, none⟩ = some (.slice (some ⟨l.d, 0, none⟩) L C) := hg2.cell 0
      have f2 := hg2.frozen 0
      have hsum : L + q ≤ C := by omega
      have hz1 : (0 : Int) ≤ (L : Int) + (q : Int) := by omega
      have hz2 : (L : Int) + (q : Int) ≤ (C : Int) := by omega
      have hz3 : IntKind.i64.wrap ((L : Int) + (q : Int)) = (L : Int) + (q : Int) := IntWalk.i64_in _ (by omega)
      have hnBg : B ≠ l.g := hb1.blk.ne_ hl1.blk (by decide)
      have hB2 := hb1.blk.grown hgr (fun e => hnBd (Option.some.inj e))
      have e3 : w2.cell? ⟨B, 1, none⟩ = some (.int .i64 (bytesOf (ps ++ [l])).length) := hB2.cell 1
      have f3 := hB2.frozen 1
      go_region
      have hE := fill_end (B := B) hb1 hcur HCL.out HCT.out HL.out HC.out HCSL.out hsum hgr HG2.out (T := (bytesOf (ps ++ [l])).length) rfl
      have HE := Lib.hid hE
      clear hE
      by_cases hfit : n' ≤ q
      · obtain rfl : n' = q := by omega
        have hzs : cs = zs := by rw [HCS.out]; exact List.take_of_length_le (by have := HZN.out; omega)
        have HZS := Lib.hid hzs
        clear hzs
        go_wp2_with fail
        go_ret2
        exact write_out hb1 HE.out HF.out HBS.out HXS.out HZS.out h0 h1 H2.out hk1 HXN.out
      · have hnq : (n' : Int) ≠ (q : Int) := by omega
        have hbq : ((n' : Int) == (q : Int)) = false := by simpa using hnq
        have hqlt : q < n' := by omega
        have hqc' : q < c' := by omega
        have hmn : m + 2 ≤ 20000 := by omega
        clear hnq
        go_wp2_with fail
        refine forget (fun w' => Buf w' base B pa pc (ps ++ [{ l with xs := l.xs ++ cs }]) next ∧ Only (fun k => k = B ∨ k = l.g ∨ k = l.d) w1 w') HE.out ?_
        rintro w4 ⟨hb4, ho4⟩
        clear e1 e2 e3 f2 f3 hg2 hB2
        have hlm4 : (ps ++ [{ l with xs := l.xs ++ cs }]).length = m + 1 := by have := HM.out; simp; omega
        obtain ⟨i0, hi0, hz0, hz1', hz2'⟩ := info_parts info53
        obtain ⟨g0, g1, g2⟩ := hb4.cell
        rw [hlm4] at g0
        have hrow4 := hb4.row
        rw [hlm4] at hrow4
        have hk30 : ∀ a b c : Obj, (((w4.alloc a).alloc b).alloc c).cell? ⟨B, 0, none⟩ = some (.slice (some ⟨pa, 0, none⟩) (m + 1) pc) := fun a b c => by rw [← hlm4]; exact (((hb4.blk.alloc a).alloc b).alloc c).cell 0
        have hk20 : ∀ a b : Obj, ((w4.alloc a).alloc b).cell? ⟨B, 0, none⟩ = some (.slice (some ⟨pa, 0, none⟩) (m + 1) pc) := fun a b => by rw [← hlm4]; exact ((hb4.blk.alloc a).alloc b).cell 0
        have hk10 : ∀ a : Obj, (w4.alloc a).cell? ⟨B, 0, none⟩ = some (.slice (some ⟨pa, 0, none⟩) (m + 1) pc) := fun a => by rw [← hlm4]; exact (hb4.blk.alloc a).cell 0
        have hrow3 : ∀ a b c : Obj, (((w4.alloc a).alloc b).alloc c).drew.ownsRow base 53 1 (.slice (some ⟨pa, 0, none⟩) (m + 1) pc) (m + 1) ((ps ++ [{ l with xs := l.xs ++ cs }]).map Pg.ptr) := fun a b c => ((hrow4.alloc a).alloc b).alloc c
        have hn3 : ∀ a b c : Obj, (((w4.alloc a).alloc b).alloc c).drew.heap[w4.heap.size + 2]? = some c := fun a b c => new3 w4 a b c
        have hbs4 : base ≤ w4.heap.size := Nat.le_trans hb4.ge (Nat.le_of_lt hb4.blk.lt)
        have hfB4 := hb4.blk.frozen 0
        obtain ⟨cpa, hbpa, _⟩ := own_blk hb4.row
        have hnpaB : B ≠ pa := hb4.blk.ne_ hbpa (by decide)
        have HLM4 := Lib.hid hlm4
        have HN3 := Lib.hid hn3
        have HROW3 := Lib.hid hrow3
        have hmk := fun W => make_bytes 0 next (Nat.zero_le _) (by omega) W
        simp only [Int.natCast_zero] at hmk
        clear hlm4 hn3 hrow3 hrow4
        go_region_law (refine step_append_lies _ (by rfl) _ _ _ (by rfl) base 53 i0 _ 1 8 Tryd.underlying50 hi0 hz0 hz1' hz2' rfl (by omega) (.slice (some ⟨pa, 0, none⟩) (m + 1) pc) (m + 1) _ (by rfl) (HROW3.out _ _ _) ⟨w4.heap.size + 2, 0, none⟩ 1 1 [.pointer (some ⟨w4.heap.size + 1, 0, none⟩)] (by rfl) (by rfl) (World.news_of_block (cs := #[.pointer (some ⟨w4.heap.size + 1, 0, none⟩)]) (t := 53) (fr := (0, 0)) (HN3.out _ _ _)) (by simp [Value.oneCell']) (by omega) (by unfold maxLen; omega) (by omega) (by simp; omega) (w4.heap.size + 3) (by simp) ?_; intro gg cap w5 hown5 hgrow5 hat5 hlt5; have hb5 := Blk.grown ((((hb4.blk.alloc _).alloc _).alloc _).drew) hgrow5 (fun e => hnpaB (Option.some.inj e)); rw [HLM4.out] at hb5; have hc5 : w5.cell? ⟨B, 0, none⟩ = some (.slice (some ⟨pa, 0, none⟩) (m + 1) pc) := hb5.cell 0; have hf5 := hb5.frozen 0)
        all_goals
          have HE6 := Lib.hid (grow_end hb4 HLM4.out h0 (by omega) hown5 hgrow5 hat5)
          have e52 : w5.cell? ⟨B, 2, none⟩ = some (.int .i64 next) := hb5.cell 2
          have f52 := hb5.frozen 2
          clear hown5 hgrow5 hat5 hk10 hk20 hk30 hmk hb5 g0 g1 g2 hfB4
          go_wp2_with fail
          go_roundg (2 * (n' - q))
          case measure =>
            exact measure_down HME.out HQ.out hqlt HL.out HC.out d2
          case rel => exact ws_next hb1 hb4 ho4 HE6.out hr1 HA1.out HF.out HBS.out HXS.out HCS.out (by have h3 := HQ.out; rw [show C - L = l.cap - l.xs.length from by rw [← HL.out, ← HC.out]] at h3; exact h3) hqlt hc' hcm' HD'.out h0 H2.out hk1 hM hlen (Nat.le_refl _)
    · obtain rfl : L = C := by omega
      have HCSM0 : Hid (cs.length = Nat.min n' 0) := by show _ = _; rw [HCSM.out, Nat.sub_self]
      go_region_held3 (fun w' => w'.cell? ⟨l.g, 0, none⟩ = some (.slice (some ⟨l.d, 0, none⟩) L L)) (first | exact e1 | exact (HG1.out.drew.grown hgr2 (by simp; omega)).cell 0)
        ((refine step_copy (by rfl) _ _ _ _ (by rfl) 5 Tryd.underlying24 size5 _ _ _ _ _ _ (by rfl) (by rfl) l.d L cur 5 (Blk.drew hcur) cs HCSM0.out (HP1.out _ (fun h => absurd h (by omega))) HFT.out HU1.out ?_; rw [HCSL.out]; intro w2 HG2 hgr2))

      have hgr : w1.grownBy w2 (some l.d) := ⟨hgr2.os, hgr2.tape, hgr2.output, hgr2.size, hgr2.block⟩
      clear hgr2
      go_wp2_with fail
      have hg2 : Blk w2 l.g 55 #[.slice (some ⟨l.d, 0, none⟩) L L] := HG1.out.grown hgr (fun e => hndg (Option.some.inj e).symm)
      have e2 : w2.cell? ⟨l.g, 0, none⟩ = some (.slice (some ⟨l.d, 0, none⟩) L L) := hg2.cell 0
      have f2 := hg2.frozen 0
      have hsum : L + q ≤ L := by omega
      have hz1 : (0 : Int) ≤ (L : Int) + (q : Int) := by omega
      have hz2 : (L : Int) + (q : Int) ≤ (L : Int) := by omega
      have hz3 : IntKind.i64.wrap ((L : Int) + (q : Int)) = (L : Int) + (q : Int) := IntWalk.i64_in _ (by omega)
      have hnBg : B ≠ l.g := hb1.blk.ne_ hl1.blk (by decide)
      have hB2 := hb1.blk.grown hgr (fun e => hnBd (Option.some.inj e))
      have e3 : w2.cell? ⟨B, 1, none⟩ = some (.int .i64 (bytesOf (ps ++ [l])).length) := hB2.cell 1
      have f3 := hB2.frozen 1
      go_region
      have hE := fill_end (B := B) hb1 hcur HCL.out HCT.out HL.out HC.out HCSL.out hsum hgr HG2.out (T := (bytesOf (ps ++ [l])).length) rfl
      have HE := Lib.hid hE
      clear hE
      by_cases hfit : n' ≤ q
      · obtain rfl : n' = q := by omega
        have hzs : cs = zs := by rw [HCS.out]; exact List.take_of_length_le (by have := HZN.out; omega)
        have HZS := Lib.hid hzs
        clear hzs
        go_wp2_with fail
        go_ret2
        exact write_out hb1 HE.out HF.out HBS.out HXS.out HZS.out h0 h1 H2.out hk1 HXN.out
      · have hnq : (n' : Int) ≠ (q : Int) := by omega
        have hbq : ((n' : Int) == (q : Int)) = false := by simpa using hnq
        have hqlt : q < n' := by omega
        have hqc' : q < c' := by omega
        have hmn : m + 2 ≤ 20000 := by omega
        clear hnq
        go_wp2_with fail
        refine forget (fun w' => Buf w' base B pa pc (ps ++ [{ l with xs := l.xs ++ cs }]) next ∧ Only (fun k => k = B ∨ k = l.g ∨ k = l.d) w1 w') HE.out ?_
        rintro w4 ⟨hb4, ho4⟩
        clear e1 e2 e3 f2 f3 hg2 hB2
        have hlm4 : (ps ++ [{ l with xs := l.xs ++ cs }]).length = m + 1 := by have := HM.out; simp; omega
        obtain ⟨i0, hi0, hz0, hz1', hz2'⟩ := info_parts info53
        obtain ⟨g0, g1, g2⟩ := hb4.cell
        rw [hlm4] at g0
        have hrow4 := hb4.row
        rw [hlm4] at hrow4
        have hk30 : ∀ a b c : Obj, (((w4.alloc a).alloc b).alloc c).cell? ⟨B, 0, none⟩ = some (.slice (some ⟨pa, 0, none⟩) (m + 1) pc) := fun a b c => by rw [← hlm4]; exact (((hb4.blk.alloc a).alloc b).alloc c).cell 0
        have hk20 : ∀ a b : Obj, ((w4.alloc a).alloc b).cell? ⟨B, 0, none⟩ = some (.slice (some ⟨pa, 0, none⟩) (m + 1) pc) := fun a b => by rw [← hlm4]; exact ((hb4.blk.alloc a).alloc b).cell 0
        have hk10 : ∀ a : Obj, (w4.alloc a).cell? ⟨B, 0, none⟩ = some (.slice (some ⟨pa, 0, none⟩) (m + 1) pc) := fun a => by rw [← hlm4]; exact (hb4.blk.alloc a).cell 0
        have hrow3 : ∀ a b c : Obj, (((w4.alloc a).alloc b).alloc c).drew.ownsRow base 53 1 (.slice (some ⟨pa, 0, none⟩) (m + 1) pc) (m + 1) ((ps ++ [{ l with xs := l.xs ++ cs }]).map Pg.ptr) := fun a b c => ((hrow4.alloc a).alloc b).alloc c
        have hn3 : ∀ a b c : Obj, (((w4.alloc a).alloc b).alloc c).drew.heap[w4.heap.size + 2]? = some c := fun a b c => new3 w4 a b c
        have hbs4 : base ≤ w4.heap.size := Nat.le_trans hb4.ge (Nat.le_of_lt hb4.blk.lt)
        have hfB4 := hb4.blk.frozen 0
        obtain ⟨cpa, hbpa, _⟩ := own_blk hb4.row
        have hnpaB : B ≠ pa := hb4.blk.ne_ hbpa (by decide)
        have HLM4 := Lib.hid hlm4
        have HN3 := Lib.hid hn3
        have HROW3 := Lib.hid hrow3
        have hmk := fun W => make_bytes 0 next (Nat.zero_le _) (by omega) W
        simp only [Int.natCast_zero] at hmk
        clear hlm4 hn3 hrow3 hrow4
        go_region_law (refine step_append_lies _ (by rfl) _ _ _ (by rfl) base 53 i0 _ 1 8 Tryd.underlying50 hi0 hz0 hz1' hz2' rfl (by omega) (.slice (some ⟨pa, 0, none⟩) (m + 1) pc) (m + 1) _ (by rfl) (HROW3.out _ _ _) ⟨w4.heap.size + 2, 0, none⟩ 1 1 [.pointer (some ⟨w4.heap.size + 1, 0, none⟩)] (by rfl) (by rfl) (World.news_of_block (cs := #[.pointer (some ⟨w4.heap.size + 1, 0, none⟩)]) (t := 53) (fr := (0, 0)) (HN3.out _ _ _)) (by simp [Value.oneCell']) (by omega) (by unfold maxLen; omega) (by omega) (by simp; omega) (w4.heap.size + 3) (by simp) ?_; intro gg cap w5 hown5 hgrow5 hat5 hlt5; have hb5 := Blk.grown ((((hb4.blk.alloc _).alloc _).alloc _).drew) hgrow5 (fun e => hnpaB (Option.some.inj e)); rw [HLM4.out] at hb5; have hc5 : w5.cell? ⟨B, 0, none⟩ = some (.slice (some ⟨pa, 0, none⟩) (m + 1) pc) := hb5.cell 0; have hf5 := hb5.frozen 0)
        all_goals
          have HE6 := Lib.hid (grow_end hb4 HLM4.out h0 (by omega) hown5 hgrow5 hat5)
          have e52 : w5.cell? ⟨B, 2, none⟩ = some (.int .i64 next) := hb5.cell 2
          have f52 := hb5.frozen 2
          clear hown5 hgrow5 hat5 hk10 hk20 hk30 hmk hb5 g0 g1 g2 hfB4
          go_wp2_with fail
          go_roundg (2 * (n' - q))
          case measure =>
            exact measure_down HME.out HQ.out hqlt HL.out HC.out d2
          case rel => exact ws_next hb1 hb4 ho4 HE6.out hr1 HA1.out HF.out HBS.out HXS.out HCS.out (by have h3 := HQ.out; rw [show L - L = l.cap - l.xs.length from by rw [← HL.out, ← HC.out]] at h3; exact h3) hqlt hc' hcm' HD'.out h0 H2.out hk1 hM hlen (Nat.le_refl _)
end Go.Proofs.YtgjbafongiocbaaDoor
