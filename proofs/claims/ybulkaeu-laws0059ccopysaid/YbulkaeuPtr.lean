/-
  Seat b0059a: '==' and '!=' on pointers: the same; two blocks.
-/
import Derived.Test.YbulkaeuKit
import Derived.LaidEqlPtr
namespace Go.Proofs.Ybulkaeu
open Go.RowKit

theorem eq_same {P : Program} {tp te : TypeId} {j : TypeInfo} (hp : P.underlying tp = some (.pointer te)) (hte : P.info? te = some j) (p : Option Addr) (W : World) :
    (binOp .eql tp (.pointer p) (.pointer p)).run P W = .ok (.bool true) W := by
  cases p with
  | none =>
    have h : ∀ d : Nat, (Op.equalIn (d + 1) tp (.pointer none) (.pointer none)).run P W = .ok true W := fun d => by simp [Op.equalIn, run_underlying hp]
    simp only [binOp]
    simp [Op.equal, Op.maxDepth, h 9999]
  | some a => exact run_eql_ptr_same W a hp hte

theorem ne_same {P : Program} {tp te : TypeId} {j : TypeInfo} (hp : P.underlying tp = some (.pointer te)) (hte : P.info? te = some j) (p : Option Addr) (W : World) :
    (binOp .neq tp (.pointer p) (.pointer p)).run P W = .ok (.bool false) W := by
  cases p with
  | none =>
    have h : ∀ d : Nat, (Op.equalIn (d + 1) tp (.pointer none) (.pointer none)).run P W = .ok true W := fun d => by simp [Op.equalIn, run_underlying hp]
    simp only [binOp]
    simp [Op.equal, Op.maxDepth, h 9999]
  | some a =>
    have h : ∀ d : Nat, (Op.equalIn (d + 1) tp (.pointer (some a)) (.pointer (some a))).run P W = .ok true W := fun d => by
      simp [Op.equalIn, run_underlying hp, sizeOf, typeInfo, hte, run_sameAddr_same]
    simp only [binOp]
    simp [Op.equal, Op.maxDepth, h 9999]

theorem sameAddr_far {P : Program} (W : World) {a b : Addr} {ca cb : Array Value} {ta tb : TypeId} {fr : Nat × Nat} (hne : a.block ≠ b.block) (ha : W.heap[a.block]? = some (.cells ca ta (0, 0))) (hb : W.heap[b.block]? = some (.cells cb tb fr)) (hz : cb.size ≠ 0) :
    (sameAddr a b).run P W = .ok false W := by
  obtain ⟨lo, hi⟩ := fr
  have hz' : ¬ cb = #[] := by intro e; subst e; simp at hz
  simp [sameAddr, hne, World.frozen?, ha, hb, noView, viewAt, World.shape?, mayBeOne, stringish, hz']

theorem eq_far {P : Program} {tp te : TypeId} {j : TypeInfo} (hp : P.underlying tp = some (.pointer te)) (hte : P.info? te = some j) (hsz : j.size ≠ 0) (W : World) {a b : Addr} {ca cb : Array Value} {ta tb : TypeId} {fr : Nat × Nat} (hne : a.block ≠ b.block)
    (ha : W.heap[a.block]? = some (.cells ca ta (0, 0))) (hb : W.heap[b.block]? = some (.cells cb tb fr)) (hz : cb.size ≠ 0) :
    (binOp .eql tp (.pointer (some a)) (.pointer (some b))).run P W = .ok (.bool false) W := by
  have h : ∀ d : Nat, (Op.equalIn (d + 1) tp (.pointer (some a)) (.pointer (some b))).run P W = .ok false W := fun d => by
    simp [Op.equalIn, run_underlying hp, sizeOf, typeInfo, hte, hsz, sameAddr_far W hne ha hb hz]
  simp only [binOp]
  simp [Op.equal, Op.maxDepth, h 9999]

end Go.Proofs.Ybulkaeu
