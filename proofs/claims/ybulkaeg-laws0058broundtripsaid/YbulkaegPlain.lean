/-
  Plain laws for seat b0058a: no Go in sight. 'scan esc l': what follows the first unescaped double quote in l.
-/
namespace Go.Proofs.Ybulkaeg.Pl

def scan : Bool → List UInt8 → Option (List UInt8)
  | _, [] => .none
  | true, _ :: r => scan false r
  | false, c :: r => if c.toNat = 92 then scan true r else if c.toNat = 34 then some r else scan false r

def esc : List UInt8 → List UInt8
  | [] => []
  | c :: r => if c.toNat = 92 ∨ c.toNat = 34 then 92 :: c :: esc r else c :: esc r

theorem scan_esc (l t : List UInt8) : scan false (esc l ++ 34 :: t) = some t := by
  induction l with
  | nil => rfl
  | cons c r ih =>
    unfold esc
    split
    · have : (92 : UInt8).toNat = 92 := rfl
      simp [scan, ih]
    · rename_i h
      simp only [not_or] at h
      simp [scan, h.1, h.2, ih]

theorem esc_append (a b : List UInt8) : esc (a ++ b) = esc a ++ esc b := by
  induction a with
  | nil => rfl
  | cons c r ih => simp only [List.cons_append, esc]; split <;> simp [ih]

theorem esc_len (l : List UInt8) : (esc l).length ≤ 2 * l.length := by
  induction l with
  | nil => simp [esc]
  | cons c r ih => unfold esc; split <;> simp <;> omega

end Go.Proofs.Ybulkaeg.Pl
