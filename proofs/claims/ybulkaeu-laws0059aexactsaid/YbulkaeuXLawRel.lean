/-
  Seat b0059a, LawS0059AExact: what the law's own loops stand on.
-/
import Derived.Test.YbulkaeuXLawPlain
import Derived.Test.YbulkaeuXEvalRel
set_option linter.unusedSimpArgs false
set_option linter.unusedVariables false
namespace Go.Proofs.Ybulkaeu
open Go.RowKit Go.Maps

theorem EV.ofBL {w : World} {n : Nat} {ns : List Pl.Nd} {wr : World} (h : BL w n ns n n 0 wr) : EV wr n w.heap.size (w.heap.size + 1) (Pl.part ns) (fun k => Pl.sts ns n k n) := by
  obtain ⟨nb, h1, h2⟩ := h.nodes
  refine ⟨fun k hk => ?_, fun k hk => ?_, fun k hk => ⟨nb k, ?_, (h2 k hk).at⟩, fun k hk => sts_asc ns n k n, fun k hk => sts_ids, fun k hk => sts_len ns n k n⟩
  · have := h.part.cell hk
    rw [this, if_pos hk]
  · unfold Pl.part
    cases ns[k]? with
    | none => simp
    | some nd => exact Nat.mod_lt _ (by omega)
  · have := h1.cell hk
    rw [this, if_pos hk]

structure XL (w : World) (n : Nat) (ns : List Pl.Nd) (B9 base : Nat) (va : Option Addr) (vc : Nat) (st sv : Bool) (wr : World) : Prop where
  bel : Below w.heap.size w wr
  part : ArrIs wr (w.heap.size + 1) 3 n (fun k => .int .i64 (Pl.part ns k : Int))
  has : ArrIs wr (w.heap.size + 2) 4 (n * n) (fun m => .bool (Pl.e ns n (m / n) (m % n)).isSome)
  seq : ArrIs wr (w.heap.size + 3) 34 (n * n) (fun m => .int .u64 (Pl.seqE (Pl.e ns n (m / n) (m % n)) : Int))
  act : ArrIs wr (w.heap.size + 4) 4 (n * n) (fun m => .bool (Pl.actE (Pl.e ns n (m / n) (m % n))))
  out : wr.heap[B9]? = some (.cells #[.slice va (Pl.own (fun k => Pl.sts ns n k n) n).length vc, .bool st, .bool sv] 32 (0, 0))
  row : wr.ownsRow base 37 5 (.slice va (Pl.own (fun k => Pl.sts ns n k n) n).length vc) (Pl.own (fun k => Pl.sts ns n k n) n).length ((Pl.own (fun k => Pl.sts ns n k n) n).flatMap (Pl.stand (Pl.part ns) (fun k => Pl.sts ns n k n) n (Pl.held (Pl.part ns) (fun k => Pl.sts ns n k n) n 0)))

theorem XL.below {w : World} {n : Nat} {ns : List Pl.Nd} {B9 base : Nat} {va : Option Addr} {vc : Nat} {st sv : Bool} {wr W : World} (h : XL w n ns B9 base va vc st sv wr) (hb : Below wr.heap.size wr W) : XL w n ns B9 base va vc st sv W :=
  ⟨h.bel.trans (hb.mono h.bel.size), h.part.below hb, h.has.below hb, h.seq.below hb, h.act.below hb, (hb.block _ (Array.getElem?_eq_some_iff.1 h.out).1).trans h.out, h.row.kept (grown_of_below hb none) (Classical.em _)⟩

theorem div_lt_of {n m : Nat} (h : m < n * n) : m / n < n := Nat.div_lt_of_lt_mul h

theorem XL.start {w : World} {n : Nat} {ns : List Pl.Nd} {wb we : World} {base : Nat} {va : Option Addr} {vc : Nat} {st sv : Bool} (h : BL w n ns n n 0 wb) (hb : Below wb.heap.size wb we)
    (hrow : we.ownsRow base 37 5 (.slice va (Pl.own (fun k => Pl.sts ns n k n) n).length vc) (Pl.own (fun k => Pl.sts ns n k n) n).length ((Pl.own (fun k => Pl.sts ns n k n) n).flatMap (Pl.stand (Pl.part ns) (fun k => Pl.sts ns n k n) n (Pl.held (Pl.part ns) (fun k => Pl.sts ns n k n) n 0)))) :
    XL w n ns we.heap.size base va vc st sv (we.alloc (.cells #[.slice va (Pl.own (fun k => Pl.sts ns n k n) n).length vc, .bool st, .bool sv] 32)) := by
  have ha : Below we.heap.size we (we.alloc (.cells #[.slice va (Pl.own (fun k => Pl.sts ns n k n) n).length vc, .bool st, .bool sv] 32)) := (Below.refl _ _).alloc (Nat.le_refl _) _
  have hbb := hb.trans (ha.mono hb.size)
  have ht : ∀ m, m < n * n → Pl.tab ns n n 0 m = Pl.e ns n (m / n) (m % n) := fun m hm => tab_full (div_lt_of hm)
  refine ⟨h.bel.trans (hbb.mono h.bel.size), (h.part.below hbb).congr (fun k hk => by rw [if_pos hk]), (h.has.below hbb).congr (fun m hm => by rw [ht m hm]; rfl), (h.seq.below hbb).congr (fun m hm => by rw [ht m hm, seqV_eq]), (h.act.below hbb).congr (fun m hm => by rw [ht m hm, actV_eq]), heap_alloc_new _ _, hrow.alloc _⟩

theorem idx_lt {n i j : Nat} (hi : i < n) (hj : j < n) : i * n + j < n * n := by
  have h1 : (i + 1) * n ≤ n * n := Nat.mul_le_mul_right n hi
  have h3 : (i + 1) * n = i * n + n := by rw [Nat.add_mul]; omega
  omega
theorem XL.hasAt {w : World} {n : Nat} {ns : List Pl.Nd} {B9 base : Nat} {va : Option Addr} {vc : Nat} {st sv : Bool} {wr : World} (h : XL w n ns B9 base va vc st sv wr) {i j : Nat} (hi : i < n) (hj : j < n) : wr.cell? ⟨w.heap.size + 2, i * n + j, none⟩ = some (.bool (Pl.e ns n i j).isSome) := by
  rw [h.has.cell (idx_lt hi hj), (flat_div hj).1, (flat_div hj).2]
theorem XL.seqAt {w : World} {n : Nat} {ns : List Pl.Nd} {B9 base : Nat} {va : Option Addr} {vc : Nat} {st sv : Bool} {wr : World} (h : XL w n ns B9 base va vc st sv wr) {i j : Nat} (hi : i < n) (hj : j < n) : wr.cell? ⟨w.heap.size + 3, i * n + j, none⟩ = some (.int .u64 (Pl.seqE (Pl.e ns n i j) : Int)) := by
  rw [h.seq.cell (idx_lt hi hj), (flat_div hj).1, (flat_div hj).2]
theorem XL.actAt {w : World} {n : Nat} {ns : List Pl.Nd} {B9 base : Nat} {va : Option Addr} {vc : Nat} {st sv : Bool} {wr : World} (h : XL w n ns B9 base va vc st sv wr) {i j : Nat} (hi : i < n) (hj : j < n) : wr.cell? ⟨w.heap.size + 4, i * n + j, none⟩ = some (.bool (Pl.actE (Pl.e ns n i j))) := by
  rw [h.act.cell (idx_lt hi hj), (flat_div hj).1, (flat_div hj).2]

end Go.Proofs.Ybulkaeu
