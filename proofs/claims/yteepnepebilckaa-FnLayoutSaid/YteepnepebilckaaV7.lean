/- What is good of a function as data. -/
import Derived.Test.YteepnepebilckaaV3
import Derived.Test.YteepnepebilckaaV6
namespace Go.Proofs.Yteepnepebilckaa
open Go Go.Eng

def BadA (f : Fn) (v : Vl) : Prop := (((v.op < 0 ∨ 15 < v.op) ∨ v.blk < 0) ∨ (f.blks.length : Int) ≤ v.blk) ∨ (v.args.length : Int) ≠ manyI v.op ((predsOf f v.blk.toNat).length : Nat)
def BadB (v : Vl) : Prop := ((v.op = 0 ∧ (v.aux < 0 ∨ 3 < v.aux)) ∨ (1 < v.op ∧ v.aux ≠ 0)) ∨ (v.op = 13 ∧ v.args.length = 0)
/-- An argument is known where it is used. -/
def KnownF (f : Fn) (i k : Nat) (a : Int) : Prop :=
  if (f.v i).op = 13 then ¬ Rch f (f.v a.toNat).blk ((predsOf f (f.v i).blk.toNat).getD k 0)
  else ((f.v a.toNat).blk ≠ (f.v i).blk ∧ ¬ Rch f (f.v a.toNat).blk (f.v i).blk.toNat) ∨ ((f.v a.toNat).blk = (f.v i).blk ∧ a < i)
def ArgOk (f : Fn) (i k : Nat) : Prop :=
  (0 ≤ (f.v i).args.getD k 0 ∧ (f.v i).args.getD k 0 < f.vals.length) ∧ KnownF f i k ((f.v i).args.getD k 0)
def TruOk (f : Fn) (i k : Nat) : Prop := (f.v i).op ≠ 14 → truthN f 48 ((f.v i).args.getD k 0).toNat = decide ((f.v i).op = 15 ∧ k = 2)
def CtlOk (f : Fn) (b : Nat) : Prop := (f.b b).kind ≠ 0 → ¬ Rch f (f.v (f.b b).ctrl.toNat).blk b ∧ truthN f 48 (f.b b).ctrl.toNat = decide ((f.b b).kind = 1)
structure GoodP (f : Fn) : Prop where
  shp : ShapeP f
  fst : ∀ i, i < f.vals.length → ¬ BadA f (f.v i)
  snd : ∀ i, i < f.vals.length → ¬ BadB (f.v i) ∧ ∀ k, k < (f.v i).args.length → ArgOk f i k
  tru : ∀ i, i < f.vals.length → ∀ k, k < (f.v i).args.length → TruOk f i k
  ctl : ∀ b, b < f.blks.length → CtlOk f b
end Go.Proofs.Yteepnepebilckaa
