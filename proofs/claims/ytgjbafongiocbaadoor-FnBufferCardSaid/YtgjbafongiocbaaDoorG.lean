/- The buffer of pages as it lies in memory, and what stays of it where other blocks are written. -/
import Derived.Test.YtgjbafongiocbaaDoorF
namespace Go.Proofs.YtgjbafongiocbaaDoor
open Go.RowKit

/-- Only blocks of S have turned, and new ones are there. -/
structure Only (S : Nat → Prop) (w w' : World) : Prop where
  os : w'.os = w.os
  tape : w'.tape = w.tape
  output : w'.output = w.output
  size : w.heap.size ≤ w'.heap.size
  block : ∀ k, k < w.heap.size → ¬ S k → w'.heap[k]? = w.heap[k]?

theorem Only.refl (S : Nat → Prop) (w : World) : Only S w w := ⟨rfl, rfl, rfl, Nat.le_refl _, fun _ _ _ => rfl⟩
theorem Only.trans {S : Nat → Prop} {a b c : World} (h : Only S a b) (k : Only S b c) : Only S a c :=
  ⟨k.os.trans h.os, k.tape.trans h.tape, k.output.trans h.output, Nat.le_trans h.size k.size, fun i hi hs => (k.block i (Nat.lt_of_lt_of_le hi h.size) hs).trans (h.block i hi hs)⟩
theorem Only.mono {S T : Nat → Prop} {a b : World} (h : Only S a b) (hs : ∀ k, k < a.heap.size → S k → T k) : Only T a b := ⟨h.os, h.tape, h.output, h.size, fun k hk ht => h.block k hk (fun s => ht (hs k hk s))⟩
/-- a step that may also write what is new -/
theorem Only.then_ {S T : Nat → Prop} {a b c : World} (h : Only S a b) (k : Only T b c) (ht : ∀ j, T j → S j ∨ a.heap.size ≤ j) : Only S a c :=
  ⟨k.os.trans h.os, k.tape.trans h.tape, k.output.trans h.output, Nat.le_trans h.size k.size, fun i hi hs => (k.block i (Nat.lt_of_lt_of_le hi h.size) (fun t => by
    rcases ht i t with h1 | h1
    · exact hs h1
    · omega)).trans (h.block i hi hs)⟩
theorem Only.drew {S : Nat → Prop} {a w : World} (h : Only S a w) : Only S a w.drew := ⟨h.os, h.tape, h.output, h.size, h.block⟩
theorem Only.drewN {S : Nat → Prop} {a w : World} (h : Only S a w) (n : Nat) : Only S a (w.drewN n) := ⟨h.os, h.tape, h.output, h.size, h.block⟩
theorem Only.alloc {S : Nat → Prop} {a w : World} (h : Only S a w) (o : Obj) : Only S a (w.alloc o) :=
  ⟨h.os, h.tape, h.output, Nat.le_trans h.size (by simp), fun k hk hs => (Below.heap_alloc w o k (Nat.lt_of_lt_of_le hk h.size)).trans (h.block k hk hs)⟩
theorem Only.setCell {S : Nat → Prop} {a w : World} (h : Only S a w) {p : Addr} (hp : S p.block ∨ a.heap.size ≤ p.block) (u : Value) : Only S a (w.setCell p u) :=
  ⟨h.os, h.tape, h.output, by simpa [World.setCell] using h.size, fun k hk hs => (Below.heap_setCell w p u k (by
    rintro rfl
    rcases hp with hp | hp
    · exact hs hp
    · omega)).trans (h.block k hk hs)⟩
theorem Only.grown {S : Nat → Prop} {a w w' : World} {row : Option Nat} (h : Only S a w) (hg : w.grownBy w' row) (hr : ∀ g, row = some g → S g ∨ a.heap.size ≤ g) : Only S a w' :=
  ⟨hg.os.trans h.os, hg.tape.trans h.tape, hg.output.trans h.output, Nat.le_trans h.size hg.size, fun k hk hs => (hg.block k (Nat.lt_of_lt_of_le hk h.size) (fun e => by
    rcases hr k e.symm with h1 | h1
    · exact hs h1
    · omega)).trans (h.block k hk hs)⟩
theorem Only.below {S : Nat → Prop} {a w : World} (h : Only S a w) {B : Nat} (hB : B ≤ a.heap.size) (hs : ∀ k, S k → B ≤ k) : Below B a w :=
  ⟨h.os, h.tape, h.output, h.size, fun k hk => h.block k (by omega) (fun s => by have := hs k s; omega)⟩
theorem Only.of_grown {a w : World} (h : a.grownBy w none) (S : Nat → Prop) : Only S a w := ⟨h.os, h.tape, h.output, h.size, fun k hk _ => h.block k hk (by simp)⟩
theorem Only.to_grown {a w : World} {S : Nat → Prop} (h : Only S a w) (hs : ∀ k, S k → a.heap.size ≤ k) : a.grownBy w none :=
  ⟨h.os, h.tape, h.output, h.size, fun k hk _ => h.block k hk (fun s => by have := hs k s; omega)⟩
theorem Blk.only {S : Nat → Prop} {w w' : World} {g : Nat} {t : TypeId} {cs : Array Value} (h : Blk w g t cs) (ho : Only S w w') (hs : ¬ S g) : Blk w' g t cs := (ho.block g h.lt hs).trans h
theorem own_only {S : Nat → Prop} {w w' : World} {base : Nat} {e : TypeId} {size n : Nat} {v : Value} {xs : List Value} (h : w.ownsRow base e size v n xs) (ho : Only S w w') (hs : ∀ g, v.ownBlock = some g → ¬ S g) : w'.ownsRow base e size v n xs := by
  refine ⟨h.1, ?_⟩
  rcases h.2 with h2 | ⟨g, cap, cur, rfl, hb, hh, r⟩
  · exact .inl h2
  · exact .inr ⟨g, cap, cur, rfl, hb, (ho.block g (Array.getElem?_eq_some_iff.1 hh).1 (hs g rfl)).trans hh, r⟩

/-- What the world was is put aside: the rest of the walk goes on from any world of which so much is known. -/
theorem forget {P : Program} {c : Code} {Q : Exit → Act → World → Prop} {a : Act} {w : World} (F : World → Prop) (h : F w) (k : ∀ w', F w' → c.wp P Q a w') : c.wp P Q a w := k w h

/-- A page: its struct's block, its array's block, its capacity, what it holds. -/
structure Pg where
  g : Nat
  d : Nat
  cap : Nat
  xs : List Value
def Pg.ptr (p : Pg) : Value := .pointer (some ⟨p.g, 0, none⟩)
def Pg.buf (p : Pg) : Value := .slice (some ⟨p.d, 0, none⟩) p.xs.length p.cap
def bytesOf (ps : List Pg) : List Value := ps.flatMap Pg.xs

structure PgOk (w : World) (base : Nat) (p : Pg) : Prop where
  blk : Blk w p.g 55 #[p.buf]
  data : w.ownsRow base 5 1 p.buf p.xs.length p.xs
  pos : 0 < p.cap
  g_ge : base ≤ p.g

theorem PgOk.le {w : World} {base : Nat} {p : Pg} (h : PgOk w base p) : p.xs.length ≤ p.cap ∧ p.cap ≤ maxLen ∧ base ≤ p.d := by
  rcases h.data.2 with ⟨hv, _⟩ | ⟨g, cap, cur, hv, hb, hh, hn, hm, hs, ht⟩
  · cases hv
  · injection hv with hA _ hc
    injection hA with hA
    injection hA with hA
    subst hA hc
    exact ⟨hn, hm, hb⟩
theorem PgOk.cur {w : World} {base : Nat} {p : Pg} (h : PgOk w base p) : ∃ cur : List Value, Blk w p.d 5 cur.toArray ∧ cur.length = p.cap ∧ cur.take p.xs.length = p.xs := by
  rcases h.data.2 with ⟨hv, _⟩ | ⟨g, cap, cur, hv, hb, hh, hn, hm, hs, ht⟩
  · cases hv
  · injection hv with hA _ hc
    injection hA with hA
    injection hA with hA
    subst hA hc
    exact ⟨cur.toList, by simpa [Blk] using hh, by simpa using hs, by simpa using ht⟩
theorem PgOk.mk' {w : World} {base : Nat} {p : Pg} {cur : List Value} (h : Blk w p.g 55 #[p.buf]) (hd : Blk w p.d 5 cur.toArray) (hc : cur.length = p.cap) (ht : cur.take p.xs.length = p.xs) (hl : p.xs.length ≤ p.cap) (hm : p.cap ≤ maxLen)
    (hpos : 0 < p.cap) (hg : base ≤ p.g) (hb : base ≤ p.d) : PgOk w base p :=
  ⟨h, ⟨by simp, .inr ⟨p.d, p.cap, cur.toArray, rfl, hb, hd, hl, hm, by simpa using hc, by simpa using ht⟩⟩, hpos, hg⟩
theorem PgOk.only {S : Nat → Prop} {w w' : World} {base : Nat} {p : Pg} (h : PgOk w base p) (ho : Only S w w') (hg : ¬ S p.g) (hd : ¬ S p.d) : PgOk w' base p :=
  ⟨h.blk.only ho hg, own_only h.data ho (fun g e => by simp [Pg.buf, Value.ownBlock] at e; subst e; exact hd), h.pos, h.g_ge⟩

/-- The buffer at block B: its pages, how long the next one will be. -/
structure Buf (w : World) (base B pa pc : Nat) (ps : List Pg) (next : Nat) : Prop where
  blk : Blk w B 52 #[.slice (some ⟨pa, 0, none⟩) ps.length pc, .int .i64 (bytesOf ps).length, .int .i64 next]
  row : w.ownsRow base 53 1 (.slice (some ⟨pa, 0, none⟩) ps.length pc) ps.length (ps.map Pg.ptr)
  each : ∀ p ∈ ps, PgOk w base p
  gs : (ps.map Pg.g).Nodup
  ds : (ps.map Pg.d).Nodup
  ge : base ≤ B

section
variable {w w' : World} {base B pa pc next : Nat} {ps : List Pg}
theorem own_blk {e : TypeId} {g n cap : Nat} {xs : List Value} (h : w.ownsRow base e 1 (.slice (some ⟨g, 0, none⟩) n cap) n xs) : ∃ cur : Array Value, Blk w g e cur ∧ cur.size = cap ∧ n ≤ cap ∧ cap ≤ maxLen ∧ base ≤ g ∧ cur.toList.take n = xs := by
  rcases h.2 with ⟨hv, _⟩ | ⟨g', cap', cur, hv, hb, hh, hn, hm, hs, ht⟩
  · cases hv
  · injection hv with hA _ hc
    injection hA with hA
    injection hA with hA
    subst hA hc
    exact ⟨cur, hh, by simpa using hs, hn, hm, hb, by simpa using ht⟩
theorem Buf.only {S : Nat → Prop} (h : Buf w base B pa pc ps next) (ho : Only S w w') (hB : ¬ S B) (hpa : ¬ S pa) (hp : ∀ p ∈ ps, ¬ S p.g ∧ ¬ S p.d) : Buf w' base B pa pc ps next :=
  ⟨h.blk.only ho hB, own_only h.row ho (fun g e => by simp [Value.ownBlock] at e; subst e; exact hpa), fun p hpm => (h.each p hpm).only ho (hp p hpm).1 (hp p hpm).2, h.gs, h.ds, h.ge⟩
theorem Buf.lt (h : Buf w base B pa pc ps next) : B < w.heap.size ∧ pa < w.heap.size ∧ ∀ p ∈ ps, p.g < w.heap.size ∧ p.d < w.heap.size := by
  obtain ⟨cur, hb, _⟩ := own_blk h.row
  refine ⟨h.blk.lt, hb.lt, fun p hp => ⟨(h.each p hp).blk.lt, ?_⟩⟩
  obtain ⟨c, hc, _⟩ := (h.each p hp).cur
  exact hc.lt
/-- New blocks turn nothing of it. -/
theorem Buf.grown (h : Buf w base B pa pc ps next) (hg : w.grownBy w' none) : Buf w' base B pa pc ps next :=
  h.only (Only.of_grown hg fun _ => False) id id (fun _ _ => ⟨id, id⟩)
theorem Buf.cell (h : Buf w base B pa pc ps next) : w.cell? ⟨B, 0, none⟩ = some (.slice (some ⟨pa, 0, none⟩) ps.length pc) ∧ w.cell? ⟨B, 1, none⟩ = some (.int .i64 (bytesOf ps).length) ∧ w.cell? ⟨B, 2, none⟩ = some (.int .i64 next) :=
  ⟨h.blk.cell 0, h.blk.cell 1, h.blk.cell 2⟩
theorem Buf.ptr (h : Buf w base B pa pc ps next) {k : Nat} {p : Pg} (hk : ps[k]? = some p) : w.cell? ⟨pa, k, none⟩ = some (.pointer (some ⟨p.g, 0, none⟩)) ∧ w.cell? ⟨p.g, 0, none⟩ = some (.slice (some ⟨p.d, 0, none⟩) p.xs.length p.cap) ∧ p.xs.length ≤ p.cap ∧ p.cap ≤ maxLen := by
  have hm := List.mem_of_getElem? hk
  refine ⟨?_, (h.each p hm).blk.cell 0, (h.each p hm).le.1, (h.each p hm).le.2.1⟩
  have := h.row.cells (g := pa) rfl k p.ptr (by rw [List.getElem?_map, hk]; rfl)
  rw [Addr.add_lit] at this
  simpa [Pg.ptr] using this
theorem Buf.len_le (h : Buf w base B pa pc ps next) : ps.length ≤ pc ∧ pc ≤ maxLen := by
  obtain ⟨cur, hb, _, h1, h2, _⟩ := own_blk h.row
  exact ⟨h1, h2⟩
end
end Go.Proofs.YtgjbafongiocbaaDoor
