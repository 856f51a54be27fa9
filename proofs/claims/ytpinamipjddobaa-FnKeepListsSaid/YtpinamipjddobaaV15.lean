/- The logic of views: scopes through which a run goes without a goto. -/
import Derived.Test.YtpinamipjddobaaV14
import Derived.Scope
namespace Go.Proofs.YtpinamipjddobaaV
open Go.RowKit
set_option linter.unusedSimpArgs false
set_option linter.unusedVariables false
def noG (Q : Exit → VQ) : Exit → VQ
  | .goto _ => fun _ _ _ => False
  | x => Q x
section
variable {P : Program} {n : Nat} {Q : Exit → VQ} {e : Env} {ds : List Deferred} {A : View}
theorem vscope {c : Code} (h : VCode P n c (noG Q) e ds A) : VCode P n (.scope c) Q e ds A := by
  intro w hw
  refine wp_scope_straight (wp_mono (h w hw) ?_)
  intro x a w' hx
  cases x with
  | goto l =>
    obtain ⟨e', ds', _, hp⟩ := hx
    obtain ⟨A', hf, _⟩ := hp
    exact hf.elim
  | _ => exact hx
theorem xc_scope {c : Code} (h : xc P n c (noG Q) e ds A) : xc P n (.scope c) Q e ds A := vscope (xc_sound _ h)
theorem xc_label {l : Nat} (h : Q .normal e ds A) : xc P n (.label l) Q e ds A := vlabel h
theorem noG_ret (h : Q .ret e ds A) : noG Q .ret e ds A := h
theorem noG_normal (h : Q .normal e ds A) : noG Q .normal e ds A := h
end
end Go.Proofs.YtpinamipjddobaaV
