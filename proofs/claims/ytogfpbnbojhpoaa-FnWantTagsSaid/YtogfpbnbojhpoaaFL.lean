/- Floats: a float whose difference from itself is told is no NaN; what stands for a NaN is no nought. -/
import Derived.Test.YtogfpbnbojhpoaaTA
namespace Go.Proofs.YtogfpbnbojhpoaaV
open Go.RowKit
set_option linter.unusedSimpArgs false
set_option linter.unusedVariables false
theorem fine_of_sub {f r : Nat} (h : (FloatKind.format .f64).sub f f = some r) : fine f := by
  unfold fine Ieee.Format.order
  unfold Ieee.Format.sub at h
  cases hr : (FloatKind.format .f64).read f with
  | nan s t => rw [hr] at h; cases s <;> cases h
  | infinity s => simp [Ieee.Datum.order]
  | number s m i => simp [Ieee.Datum.order]
theorem nan_order {x y : Nat} (h : ((FloatKind.format .f64).read x).isNaN = true) : ((FloatKind.format .f64).order x y == some .eq) = false := by
  unfold Ieee.Format.order
  cases hr : (FloatKind.format .f64).read x with
  | nan s t => rfl
  | infinity s => rw [hr] at h; cases h
  | number s m i => rw [hr] at h; cases h
theorem nan_read (x y t : Nat) : ((FloatKind.format .f64).read (Question.cut (.nanBits .f64 x y) t)).isNaN = true := by
  have h1 : t % 2 < 2 := Nat.mod_lt _ (by omega)
  have h2 : (t / 2) % (2 ^ 52 - 1) < 4503599627370495 := Nat.mod_lt _ (by omega)
  simp only [Question.cut]
  generalize t % 2 = a at h1
  generalize (t / 2) % (2 ^ 52 - 1) = b at h2
  unfold Ieee.Format.read
  have e1 : (FloatKind.format .f64).signWeight = 9223372036854775808 := by decide
  have e2 : (FloatKind.format .f64).binade = 4503599627370496 := by decide
  have e3 : (FloatKind.format .f64).infRung = 9218868437227405312 := by decide
  have e4 : (a * 2 ^ 63 + 9218868437227405312 + 1 + b) % 9223372036854775808 = 9218868437227405313 + b := by omega
  simp only [e1, e2, e3]
  rw [show (0x7ff0000000000000 : Nat) = 9218868437227405312 from rfl, e4, if_neg (by omega), if_neg (by omega), if_neg (by omega)]
  rfl
section
variable {P : Program} {n : Nat} {K : VQ} {e : Env} {ds : List Deferred} {A : View} {d : Option Tmp} {ty : TypeId} {p : String} {af : Array Edge} {g : Option (Nat × Bool)}
theorem xfsub {t u : TypeId} {x y : Operand} {a b : Nat} (hx : ev n e x = .float .f64 a) (hy : ev n e y = .float .f64 b) (hn : (FloatKind.format .f64).sub a b = none)
    (h : ∀ r, ((FloatKind.format .f64).read r).isNaN = true → K (putE e d (.float .f64 r)) ds A) : vop P n ⟨d, .binOp .sub t x y u, ty, p, af, g⟩ (dn K) e ds A := by
  unfold vop
  simp only [execOp, vp_bind, hx, hy]
  refine eqGuard_vp rfl ?_
  simp only [binOp, Op.floatArith, vp_bind, ne_eq, not_true_eq_false, if_false, vp_pure, hn]
  show ∀ t : Nat, _
  intro t
  exact ⟨A, View.le_refl _, h _ (nan_read a b t)⟩
end
end Go.Proofs.YtogfpbnbojhpoaaV
