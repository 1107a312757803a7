/- The grammar of JSON (RFC 8259) over the rest of a text, in plain Lean, with the places of the values. No program; no condition. -/
import Derived.Test.YtdokakhhpcckaaaProg
namespace Go.Proofs.Ytdokakhhpcckaaa

def blk (c : UInt8) : Bool := c == 32 || c == 9 || c == 10 || c == 13
def wsL : List UInt8 → List UInt8
  | [] => []
  | c :: l => if blk c = true then wsL l else c :: l
def dgt (c : UInt8) : Bool := decide (48 ≤ c.toNat ∧ c.toNat ≤ 57)
def dgs : List UInt8 → List UInt8
  | [] => []
  | c :: l => if dgt c = true then dgs l else c :: l
def dg1 : List UInt8 → Option (List UInt8)
  | [] => none
  | c :: l => if dgt c = true then some (dgs l) else none
/-- Behind a sign, if one stands there. -/
def sgnL : List UInt8 → List UInt8
  | [] => []
  | c :: l => if c = 43 then l else if c = 45 then l else c :: l
def expL : List UInt8 → Option (List UInt8)
  | [] => some []
  | c :: l => if c = 101 ∨ c = 69 then dg1 (sgnL l) else some (c :: l)
def fracL : List UInt8 → Option (List UInt8)
  | [] => some []
  | c :: l => if c = 46 then (dg1 l).bind expL else expL (c :: l)
def intL : List UInt8 → Option (List UInt8)
  | [] => none
  | c :: l => if c = 48 then fracL l else (dg1 (c :: l)).bind fracL
def numL : List UInt8 → Option (List UInt8)
  | [] => none
  | c :: l => if c = 45 then intL l else intL (c :: l)

theorem wsL_cons (c : UInt8) (l : List UInt8) : wsL (c :: l) = if blk c = true then wsL l else c :: l := rfl
theorem dgs_cons (c : UInt8) (l : List UInt8) : dgs (c :: l) = if dgt c = true then dgs l else c :: l := rfl
theorem dg1_cons (c : UInt8) (l : List UInt8) : dg1 (c :: l) = if dgt c = true then some (dgs l) else none := rfl
theorem sgnL_cons (c : UInt8) (l : List UInt8) : sgnL (c :: l) = if c = 43 then l else if c = 45 then l else c :: l := rfl
theorem expL_cons (c : UInt8) (l : List UInt8) : expL (c :: l) = if c = 101 ∨ c = 69 then dg1 (sgnL l) else some (c :: l) := rfl
theorem fracL_cons (c : UInt8) (l : List UInt8) : fracL (c :: l) = if c = 46 then (dg1 l).bind expL else expL (c :: l) := rfl
theorem intL_cons (c : UInt8) (l : List UInt8) : intL (c :: l) = if c = 48 then fracL l else (dg1 (c :: l)).bind fracL := rfl
theorem numL_cons (c : UInt8) (l : List UInt8) : numL (c :: l) = if c = 45 then intL l else intL (c :: l) := rfl

def escs (c : UInt8) : Bool := c == 34 || c == 92 || c == 47 || c == 98 || c == 102 || c == 110 || c == 114 || c == 116
def hexc (c : UInt8) : Bool := decide ((48 ≤ c.toNat ∧ c.toNat ≤ 57) ∨ (97 ≤ c.toNat ∧ c.toNat ≤ 102) ∨ (65 ≤ c.toNat ∧ c.toNat ≤ 70))
/-- A string's inside and its closing mark. -/
inductive StrIn : List UInt8 → List UInt8 → Prop
  | close (r : List UInt8) : StrIn (34 :: r) r
  | one (c : UInt8) (l r : List UInt8) : c ≠ 34 → c ≠ 92 → 32 ≤ c.toNat → StrIn l r → StrIn (c :: l) r
  | esc (c : UInt8) (l r : List UInt8) : escs c = true → StrIn l r → StrIn (92 :: c :: l) r
  | uni (a b c d : UInt8) (l r : List UInt8) : hexc a = true → hexc b = true → hexc c = true → hexc d = true → StrIn l r → StrIn (92 :: 117 :: a :: b :: c :: d :: l) r

/-- A value's kind and place, its members' names' places and its kids. -/
inductive JT where
  | mk : (kind b e : Nat) → (names : List (Nat × Nat)) → (kids : List JT) → JT

abbrev posL (n : Nat) (l : List UInt8) : Nat := n - l.length

mutual
inductive JV (n : Nat) : List UInt8 → List UInt8 → JT → Prop
  | str (l r : List UInt8) : StrIn l r → JV n (34 :: l) r (.mk 4 (posL n (34 :: l)) (posL n r) [] [])
  | num (c : UInt8) (l r : List UInt8) : (c = 45 ∨ dgt c = true) → numL (c :: l) = some r → JV n (c :: l) r (.mk 3 (posL n (c :: l)) (posL n r) [] [])
  | nul (r : List UInt8) : JV n (110 :: 117 :: 108 :: 108 :: r) r (.mk 0 (posL n (110 :: 117 :: 108 :: 108 :: r)) (posL n r) [] [])
  | fls (r : List UInt8) : JV n (102 :: 97 :: 108 :: 115 :: 101 :: r) r (.mk 1 (posL n (102 :: 97 :: 108 :: 115 :: 101 :: r)) (posL n r) [] [])
  | tru (r : List UInt8) : JV n (116 :: 114 :: 117 :: 101 :: r) r (.mk 2 (posL n (116 :: 114 :: 117 :: 101 :: r)) (posL n r) [] [])
  | arr0 (l r : List UInt8) : wsL l = 93 :: r → JV n (91 :: l) r (.mk 5 (posL n (91 :: l)) (posL n r) [] [])
  | arr (l r : List UInt8) (ks : List JT) : JEs n (wsL l) r ks → JV n (91 :: l) r (.mk 5 (posL n (91 :: l)) (posL n r) [] ks)
  | obj0 (l r : List UInt8) : wsL l = 125 :: r → JV n (123 :: l) r (.mk 6 (posL n (123 :: l)) (posL n r) [] [])
  | obj (l r : List UInt8) (nms : List (Nat × Nat)) (ks : List JT) : JMs n (wsL l) r nms ks → JV n (123 :: l) r (.mk 6 (posL n (123 :: l)) (posL n r) nms ks)
inductive JEs (n : Nat) : List UInt8 → List UInt8 → List JT → Prop
  | last (l m r : List UInt8) (T : JT) : JV n l m T → wsL m = 93 :: r → JEs n l r [T]
  | more (l m m' r : List UInt8) (T : JT) (Ts : List JT) : JV n l m T → wsL m = 44 :: m' → JEs n (wsL m') r Ts → JEs n l r (T :: Ts)
inductive JMs (n : Nat) : List UInt8 → List UInt8 → List (Nat × Nat) → List JT → Prop
  | last (s c v m r : List UInt8) (T : JT) : StrIn s c → wsL c = 58 :: v → JV n (wsL v) m T → wsL m = 125 :: r → JMs n (34 :: s) r [(posL n (34 :: s), posL n c)] [T]
  | more (s c v m m' r : List UInt8) (T : JT) (nms : List (Nat × Nat)) (Ts : List JT) : StrIn s c → wsL c = 58 :: v → JV n (wsL v) m T → wsL m = 44 :: m' → JMs n (wsL m') r nms Ts → JMs n (34 :: s) r ((posL n (34 :: s), posL n c) :: nms) (T :: Ts)
end

theorem wsL_le : ∀ l : List UInt8, (wsL l).length ≤ l.length
  | [] => Nat.le_refl _
  | c :: l => by
    unfold wsL
    split
    · have := wsL_le l
      simp only [List.length_cons]
      omega
    · exact Nat.le_refl _
theorem wsL_idem : ∀ l : List UInt8, wsL (wsL l) = wsL l
  | [] => rfl
  | c :: l => by
    by_cases h : blk c = true
    · have e : wsL (c :: l) = wsL l := by conv => lhs; unfold wsL; rw [if_pos h]
      rw [e]
      exact wsL_idem l
    · have e : wsL (c :: l) = c :: l := by conv => lhs; unfold wsL; rw [if_neg h]
      rw [e, e]
theorem wsL_head {l : List UInt8} {c : UInt8} {r : List UInt8} (h : wsL l = c :: r) : blk c = false := by
  induction l with
  | nil => cases h
  | cons d l ih =>
    unfold wsL at h
    by_cases hd : blk d = true
    · rw [if_pos hd] at h; exact ih h
    · rw [if_neg hd] at h
      obtain rfl := (List.cons.inj h).1
      simpa using hd
theorem wsL_of {c : UInt8} {l : List UInt8} (h : blk c = false) : wsL (c :: l) = c :: l := by
  unfold wsL
  rw [if_neg (by rw [h]; decide)]
theorem dgs_le : ∀ l : List UInt8, (dgs l).length ≤ l.length
  | [] => Nat.le_refl _
  | c :: l => by
    unfold dgs
    split
    · have := dgs_le l
      simp only [List.length_cons]
      omega
    · exact Nat.le_refl _
theorem StrIn.lt {l r : List UInt8} (h : StrIn l r) : r.length < l.length := by
  induction h with
  | close r => simp
  | one c l r _ _ _ _ ih => simp only [List.length_cons]; omega
  | esc c l r _ _ ih => simp only [List.length_cons]; omega
  | uni a b c d l r _ _ _ _ _ ih => simp only [List.length_cons]; omega
theorem StrIn.split {l r : List UInt8} (h : StrIn l r) : ∃ s, l = s ++ r := by
  induction h with
  | close r => exact ⟨[34], rfl⟩
  | one c l r _ _ _ _ ih => obtain ⟨s, rfl⟩ := ih; exact ⟨c :: s, rfl⟩
  | esc c l r _ _ ih => obtain ⟨s, rfl⟩ := ih; exact ⟨92 :: c :: s, rfl⟩
  | uni a b c d l r _ _ _ _ _ ih => obtain ⟨s, rfl⟩ := ih; exact ⟨92 :: 117 :: a :: b :: c :: d :: s, rfl⟩
end Go.Proofs.Ytdokakhhpcckaaa
