import Derived.Test.Qxb6603058aEd
namespace Go.Proofs.Qxb6603058a
open Go.RowKit

theorem zz_any (a b : ByteArray) (w : World) (ha : a.size ≤ 2000) (hb : b.size ≤ 2000) :
    Calls Try.prog 8 #[.string a, .string b] w fun e w' => e = .returned (.int .i64 (dist a b : Nat)) ∧ Below w.heap.size w w' := by
  go_enter Try.func8, Try.ntmps8
  go_wp2_with fail
  refine (ed_any a b _ ha hb).mono ?_
  rintro e w1 ⟨rfl, hb⟩
  go_wp2
  go_ret
  exact ⟨rfl, hb⟩

theorem size2 (a b : ByteArray) (w : World) (ha : a.size ≤ maxLen) (hb : b.size ≤ maxLen) :
    Calls Try.prog 10 #[.string a, .string b] w fun e w' => (∃ B, e = .returned (.bool B)) ∧ w' = w := by
  unfold maxLen at ha hb
  go_enter Try.func10, Try.ntmps10
  go_wp2
  all_goals (go_ret; exact ⟨⟨_, rfl⟩, rfl⟩)
theorem size2_small (a b : ByteArray) (w : World) (ha : a.size ≤ 1024) (hb : b.size ≤ 1024) :
    Calls Try.prog 10 #[.string a, .string b] w fun e w' => e = .returned (.bool true) ∧ w' = w := by
  go_enter Try.func10, Try.ntmps10
  go_wp2
  go_ret
  exact ⟨rfl, rfl⟩
theorem size1 (a : ByteArray) (i c : Int) (w : World) (ha : a.size ≤ maxLen) :
    Calls Try.prog 11 #[.string a, .int .i64 i, .int .u8 c] w fun e w' => (∃ B, e = .returned (.bool B)) ∧ w' = w := by
  unfold maxLen at ha
  go_enter Try.func11, Try.ntmps11
  go_wp2
  all_goals (go_ret; exact ⟨⟨_, rfl⟩, rfl⟩)
theorem size1_small (a : ByteArray) (i c : Int) (w : World) (ha : a.size ≤ 1024) :
    Calls Try.prog 11 #[.string a, .int .i64 i, .int .u8 c] w fun e w' => e = .returned (.bool true) ∧ w' = w := by
  go_enter Try.func11, Try.ntmps11
  go_wp2
  go_ret
  exact ⟨rfl, rfl⟩

/-! ### plain laws of 'dist' -/
theorem dist_empty_r (a : ByteArray) : dist a ⟨#[]⟩ = a.size := D_col _
theorem dist_empty_l (b : ByteArray) : dist ⟨#[]⟩ b = b.size := D_zero _
theorem bat_ext {a b : ByteArray} (hs : a.size = b.size) (h : ∀ k, k < a.size → bat a k = bat b k) : a = b := by
  apply ByteArray.ext_getElem hs
  intro k h1 h2
  have := h k h1
  rw [bat_at h1, bat_at h2] at this
  exact UInt8.toNat_inj.1 this
theorem dist_zero_iff (a b : ByteArray) : dist a b = 0 ↔ a = b := by
  constructor
  · intro h
    obtain ⟨h1, h2⟩ := D_nought (A := bat a) (B := bat b) _ _ h
    exact bat_ext h1 h2
  · rintro rfl
    exact D_same _ (fun _ _ => rfl)
theorem dist_bounds (a b : ByteArray) : a.size ≤ dist a b + b.size ∧ b.size ≤ dist a b + a.size ∧ dist a b ≤ max a.size b.size :=
  ⟨(D_lower _ _ _ _).1, (D_lower _ _ _ _).2, D_upper _ _ _ _⟩
theorem dist_ham {a b : ByteArray} (hs : a.size = b.size) : dist a b ≤ ham (bat a) (bat b) a.size := by
  unfold dist; rw [← hs]; exact D_ham _ _ _

end Go.Proofs.Qxb6603058a
