import Derived.Maps.RangeWalk
import Derived.WalkKit
namespace Go.Proofs.Ybulkzqo
open Go.RowKit

/-- what one entry takes, as the Go text reckons it: int64(a + b) + 256, in int's own arithmetic -/
def wt (a b : Int) : Int := wrap64 (wrap64 (a + b) + 256)

def wtOf : Lit × DataW Unit → Int
  | (.string bs, .lit (.int _ n)) => wt bs.length n
  | _ => 0

def sumOn (f : Lit × DataW Unit → Int) : List (Lit × DataW Unit) → Int
  | [] => 0
  | p :: r => f p + sumOn f r

/-- the sum over those entries whose key fits q -/
def tot (q : Lit → Bool) : DataW Unit → Int
  | .map es => sumOn (fun p => if q p.1 then wtOf p else 0) es
  | _ => 0

theorem sumOn_insert (f : Lit × DataW Unit → Int) (x : Lit × DataW Unit) : ∀ l, sumOn f (DataW.insert x l) = f x + sumOn f l
  | [] => rfl
  | y :: r => by
    unfold DataW.insert
    split
    · rfl
    · simp only [sumOn, sumOn_insert f x r]; omega

theorem sumOn_congr {f g : Lit × DataW Unit → Int} : ∀ {l : List (Lit × DataW Unit)}, (∀ p ∈ l, f p = g p) → sumOn f l = sumOn g l
  | [], _ => rfl
  | x :: r, h => by
    simp only [sumOn]
    rw [h x (by simp), sumOn_congr (fun p hp => h p (by simp [hp]))]

theorem sumOn_filter (f : Lit × DataW Unit → Int) (g : Lit × DataW Unit → Bool) : ∀ l, sumOn f (l.filter g) = sumOn (fun p => if g p then f p else 0) l
  | [] => rfl
  | x :: r => by
    rw [List.filter_cons]
    by_cases h : g x = true
    · simp [h, sumOn, sumOn_filter f g r]
    · simp [h, sumOn, sumOn_filter f g r]

theorem sumOn_none (f : Lit × DataW Unit → Int) : ∀ l, (∀ p ∈ l, f p = 0) → sumOn f l = 0
  | [], _ => rfl
  | x :: r, h => by
    simp only [sumOn]
    rw [h x (by simp), sumOn_none f r (fun p hp => h p (by simp [hp]))]
    rfl

theorem tot_put (es : List (Lit × DataW Unit)) (k : Lit) (d : DataW Unit) (q : Lit → Bool) :
    tot q ((DataW.map es).put k d) = tot (fun z => q z && !z.sameKey k) (.map es) + if q k then wtOf (k, d) else 0 := by
  simp only [DataW.put, tot]
  rw [sumOn_insert, sumOn_filter, Int.add_comm]
  congr 1
  apply sumOn_congr
  intro p _
  by_cases h1 : q p.1 = true <;> by_cases h2 : p.1.sameKey k = true <;> simp [h1, h2]

theorem tot_none (q : Lit → Bool) (D : DataW Unit) (h : ∀ z, q z = false) : tot q D = 0 := by
  cases D <;> simp only [tot]
  exact sumOn_none _ _ (fun p _ => by simp [h])

/-- one key comes out -/
theorem tot_step (kl : Lit) (d : DataW Unit) (left : Lit → Bool) (hl : left kl = true) : ∀ (es : List (Lit × DataW Unit)), es.Pairwise (fun p q => p.1 ≠ q.1) → (∀ z, (DataW.map es).atKey kl z = d) →
    tot left (.map es) = tot (fun z => left z && !z.sameKey kl) (.map es) + wtOf (kl, d)
  | [], _, h => by
    have h1 := h .nil
    have h2 := h (.lit .nil)
    simp only [DataW.atKey, List.find?_nil] at h1 h2
    rw [← h1] at h2
    cases h2
  | x :: r, hp, h => by
    obtain ⟨h1, h2⟩ := List.pairwise_cons.1 hp
    by_cases hx : x.1.sameKey kl = true
    · have e := WideAt.sameKey_eq hx
      have hd : x.2 = d := by simpa [DataW.atKey, hx] using h .nil
      have hx' : x = (kl, d) := by rw [← e, ← hd]
      have hr : sumOn (fun p => if left p.1 then wtOf p else 0) r = sumOn (fun p => if left p.1 && !p.1.sameKey kl then wtOf p else 0) r := by
        apply sumOn_congr
        intro p hpr
        have hne : p.1.sameKey kl = false := Maps.sameKey_ne (fun e2 => h1 p hpr (by rw [e, e2]))
        simp [hne]
      simp only [tot, sumOn]
      rw [hr]
      rw [e] at hx
      simp only [e, hl, hx]
      rw [hx']
      simp; omega
    · have hx0 : x.1.sameKey kl = false := by simpa using hx
      have ih := tot_step kl d left hl r h2 (fun z => by have := h z; simpa [DataW.atKey, hx0] using this)
      simp only [tot, sumOn] at ih ⊢
      rw [ih]
      simp only [hx0, Bool.not_false, Bool.and_true]
      omega

/-- the sum over the last places of each key, forward -/
def gsum (q : Lit → Bool) : List (List UInt8 × Nat) → Int
  | [] => 0
  | x :: r => (if q (.string x.1) && !(r.any fun y => y.1 == x.1) then wt x.1.length x.2 else 0) + gsum q r

theorem gsum_snoc (y : List UInt8 × Nat) : ∀ (l : List (List UInt8 × Nat)) (q : Lit → Bool), gsum q (l ++ [y]) = gsum (fun z => q z && !z.sameKey (.string y.1)) l + if q (.string y.1) then wt y.1.length y.2 else 0
  | [], q => by cases h : q (.string y.1) <;> simp [gsum, h]
  | x :: r, q => by
    simp only [List.cons_append, gsum]
    rw [gsum_snoc y r q]
    have e : (q (.string x.1) && !((r ++ [y]).any fun z => z.1 == x.1)) = ((q (.string x.1) && !(Lit.string x.1).sameKey (.string y.1)) && !(r.any fun z => z.1 == x.1)) := by
      simp only [List.any_append, List.any_cons, List.any_nil, Bool.or_false, Lit.sameKey]
      have : (y.1 == x.1) = (x.1 == y.1) := by rw [Bool.eq_iff_iff]; simp; exact eq_comm
      rw [this]
      cases q (.string x.1) <;> cases (r.any fun z => z.1 == x.1) <;> cases (x.1 == y.1) <;> rfl
    rw [e]
    omega

/-- the map that the first loop fills -/
def mapOf (l : List (List UInt8 × Nat)) : DataW Unit := l.foldl (fun D x => D.put (.string x.1) (.lit (.int .i64 x.2))) (.map [])
theorem mapOf_snoc (l : List (List UInt8 × Nat)) (x : List UInt8 × Nat) : mapOf (l ++ [x]) = (mapOf l).put (.string x.1) (.lit (.int .i64 x.2)) := by simp [mapOf, List.foldl_append]
theorem mapOf_isMap : ∀ r : List (List UInt8 × Nat), Maps.IsMap (mapOf r.reverse)
  | [] => ⟨[], rfl⟩
  | x :: r => by rw [List.reverse_cons, mapOf_snoc]; exact (mapOf_isMap r).put _ _

theorem tot_mapOf_rev : ∀ (r : List (List UInt8 × Nat)) (q : Lit → Bool), tot q (mapOf r.reverse) = gsum q r.reverse
  | [], _ => rfl
  | x :: r, q => by
    rw [List.reverse_cons, mapOf_snoc, gsum_snoc]
    obtain ⟨es, he⟩ := mapOf_isMap r
    rw [he, tot_put, ← he, tot_mapOf_rev r]
    rfl

theorem tot_mapOf (l : List (List UInt8 × Nat)) (q : Lit → Bool) : tot q (mapOf l) = gsum q l := by
  have := tot_mapOf_rev l.reverse q
  rwa [List.reverse_reverse] at this

theorem wrap_add (a b : Int) : wrap64 (wrap64 a + b) = wrap64 (a + b) := by
  unfold wrap64
  omega

end Go.Proofs.Ybulkzqo
