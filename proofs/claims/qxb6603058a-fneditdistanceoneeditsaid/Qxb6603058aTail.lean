import Derived.StillTail
import Derived.Deep.Quiet
import Derived.WalkKit
import Derived.BigQuiet
namespace Go.Proofs.Qxb6603058a

section
variable {P : Program} {ops : Array Oper} {W : World} {Q : Act → Prop}

theorem still_of_quiet_op {o : Oper} {a : Act} {K K' : Act → Prop} (hK : ∀ a, K a → K' a) (h : o.quiet P a (fun w' => w' = W) K) : o.still P a W K' := by
  obtain ⟨v, hv, hn⟩ := h
  have h1 := hv W rfl
  unfold Oper.quietAt at h1
  unfold Oper.still
  generalize Sem.run P (execOp a.eval o) W = r at h1 ⊢
  match r, h1 with
  | .ok (.value u) w', h1 => obtain ⟨h2, h3⟩ := h1; subst h3; exact ⟨h2, hK _ hn⟩
  | .ok .skip w', h1 => obtain ⟨h2, h3⟩ := h1; subst h3; exact ⟨h2, hK _ hn⟩
  | .ok (.enter f args) w', h1 => obtain ⟨h2, hc⟩ := h1; exact ⟨h2, v, hc, hK _ hn⟩

theorem still_of_quiet : ∀ (l : List Oper) (a : Act), wpQuiet P ops (fun w' => w' = W) Q l a → wpStill P ops W Q l a
  | [], _, h => h
  | o :: rest, a, h => by
    unfold wpQuiet at h
    unfold wpStill
    split at h
    · rename_i hw
      rw [if_pos hw]
      exact still_of_quiet_op (fun a ha => still_of_quiet rest a ha) h
    · rename_i hw
      rw [if_neg hw]
      exact still_of_quiet rest _ h
end

/-- A region that draws its order: its first n operations only read and come ahead of the rest in every order; the rest goes in a row. ONE WALK, IN THE ORDER OF THE TEXT. -/
theorem wp_region_tail {P : Program} {id : Nat} {Q : Exit → Act → World → Prop} {a : Act} {w : World} {l : List Oper} (n : Nat) (hm : P.follows .mixedOrders = true) (hB : Region.lexTailB .any l.toArray n = true)
    (h : wpQuiet P l.toArray (fun w' => w' = w.drew) (fun a' => wpList P l.toArray Q (l.drop n) a' w.drew) (l.take n) a) : (Code.region id l.toArray true).wp P Q a w :=
  wp_region_still_tail n hm hB (still_of_quiet _ _ h)

end Go.Proofs.Qxb6603058a
