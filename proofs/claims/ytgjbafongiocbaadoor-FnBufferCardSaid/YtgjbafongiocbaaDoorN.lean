/- A reader over the buffer: where it begins. -/
import Derived.Test.YtgjbafongiocbaaDoorM
namespace Go.Proofs.YtgjbafongiocbaaDoor
open Go.RowKit

/-- A reader stands at page i, place s, ahead of byte q: in a page with room behind, or behind all pages. -/
def Stands (ps : List Pg) (i s q : Nat) : Prop :=
  i ≤ ps.length ∧ (bytesOf (ps.take i)).length + s = q ∧ (∀ p, ps[i]? = some p → s ≤ p.xs.length ∧ s < p.cap) ∧ (i = ps.length → s = 0)

def IsReader (w : World) (R B i s : Nat) : Prop := Blk w R 59 #[.pointer (some ⟨B, 0, none⟩), .int .i64 i, .int .i64 s]

def NewReader (w0 : World) (B : Nat) (ps : List Pg) (q : Nat) (e : Ending) (w' : World) : Prop :=
  ∃ R i s, e = .returned (.pointer (some ⟨R, 0, none⟩)) ∧ w0.heap.size ≤ R ∧ IsReader w' R B i s ∧ Stands ps i s q ∧ Only (fun _ => False) w0 w'

theorem reader_any {w0 : World} {base B pa pc next : Nat} {ps : List Pg} (h : Buf w0 base B pa pc ps next) (q : Nat) (hq : q < (bytesOf ps).length) (hl : (bytesOf ps).length ≤ 1000000) (hpl : ps.length ≤ 1000000) :
    Calls Tryd.prog 15 #[.pointer (some ⟨B, 0, none⟩), .int .i64 q] w0 (NewReader w0 B ps q) := by
  go_enter Tryd.func15, Tryd.ntmps15
  go_wp2_with fail
  refine (offset_any h q hq (by omega) (by omega)).mono ?_
  rintro e w1 ⟨i, s, p, rfl, hp, hqs, hs, rfl⟩
  have hil : i < ps.length := (List.getElem?_eq_some_iff.1 hp).1
  have hst : Stands ps i s q := ⟨by omega, hqs, fun p' hp' => by
    rw [hp] at hp'
    injection hp' with hp'
    subst hp'
    have := (h.each p (List.mem_of_getElem? hp)).le.1
    omega, fun hi => by omega⟩
  have HST := Lib.hid hst
  clear hst hqs hp
  go_wp2_with fail
  go_ret
  exact ⟨w0.heap.size, i, s, rfl, Nat.le_refl _, Blk.new w0 59 _, HST.out, (Only.refl _ w0).alloc _⟩
end Go.Proofs.YtgjbafongiocbaaDoor
