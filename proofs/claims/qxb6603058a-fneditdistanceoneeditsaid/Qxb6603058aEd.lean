import Derived.Test.Qxb6603058aRows
import Derived.Test.Qxb6603058aTab
import Derived.WalkKit
import Derived.BigQuiet
import Derived.Test.Qxb6603058aTail
namespace Go.Proofs.Qxb6603058a
open Go.RowKit

theorem Try.info3 : (Try.prog.info? 3).map (fun i => (i.zero, i.size, i.bytes)) = some (some (.int .i64 0), 1, 8) := by kernel_rfl
theorem Try.info30 : (Try.prog.info? 30).map (fun i => (i.zero, i.size, i.bytes)) = some (some (.slice none 0 0), 1, 24) := by kernel_rfl

/-- The byte at k, as a number. -/
def bat (s : ByteArray) (k : Nat) : Nat := if h : k < s.size then (s[k]'h).toNat else 0
theorem bat_at {s : ByteArray} {k : Nat} (h : k < s.size) : bat s k = (s[k]'h).toNat := by unfold bat; rw [dif_pos h]

def dist (a b : ByteArray) : Nat := D (bat a) (bat b) a.size b.size

theorem beq_yes {a b : ByteArray} {i j i' j' : Nat} (hi : i < a.size) (hj : j < b.size) (e1 : i' = i) (e2 : j' = j) (h : bat a i' = bat b j') : (((a[i]'hi).toNat : Int) == ((b[j]'hj).toNat : Int)) = true := by
  subst e1 e2; rw [bat_at hi, bat_at hj] at h; simp [h]
theorem beq_no {a b : ByteArray} {i j i' j' : Nat} (hi : i < a.size) (hj : j < b.size) (e1 : i' = i) (e2 : j' = j) (h : ¬ bat a i' = bat b j') : (((a[i]'hi).toNat : Int) == ((b[j]'hj).toNat : Int)) = false := by
  subst e1 e2; rw [bat_at hi, bat_at hj] at h; simp; omega
theorem bne_yes {a b : ByteArray} {i j : Nat} (hi : i < a.size) (hj : j < b.size) (h : ¬ bat a i = bat b j) : (((a[i]'hi).toNat : Int) != ((b[j]'hj).toNat : Int)) = true := by
  rw [bat_at hi, bat_at hj] at h; simp; omega
theorem bne_no {a b : ByteArray} {i j : Nat} (hi : i < a.size) (hj : j < b.size) (h : bat a i = bat b j) : (((a[i]'hi).toNat : Int) != ((b[j]'hj).toNat : Int)) = false := by
  rw [bat_at hi, bat_at hj] at h; simp [h]
/-- 'min' of three. -/
def min3 (x y z : Int) : Int := if z < (if y < x then y else x) then z else (if y < x then y else x)
theorem run_min3 {P : Program} (ts : Array TypeId) (t : TypeId) (x y z : Int) (w : World) : (Builtin.min_ ts t #[.int .i64 x, .int .i64 y, .int .i64 z]).run P w = .ok (.int .i64 (min3 x y z)) w := by
  simp [Builtin.min_, Builtin.min2, min3]
theorem min3_same {A B : Nat → Nat} {p q : Nat} (h : A p = B q) : min3 ((D A B p (q + 1) : Int) + 1) ((D A B (p + 1) q : Int) + 1) (D A B p q : Int) = (M A B p q : Int) := by
  unfold min3 M; rw [if_pos h]; split <;> split <;> omega
theorem min3_other {A B : Nat → Nat} {p q : Nat} (h : ¬ A p = B q) : min3 ((D A B p (q + 1) : Int) + 1) ((D A B (p + 1) q : Int) + 1) ((D A B p q : Int) + 1) = (M A B p q : Int) := by
  unfold min3 M; rw [if_neg h]; split <;> split <;> omega

theorem D_swap' {A B : Nat → Nat} {p q : Nat} (hp : 1 ≤ p) (hq : 1 ≤ q) (h : A p = B (q - 1)) (h2 : A (p - 1) = B q) : D A B (p + 1) (q + 1) = min (M A B p q) (D A B (p - 1) (q - 1) + 1) := by
  obtain ⟨p, rfl⟩ : ∃ r, p = r + 1 := ⟨p - 1, by omega⟩
  obtain ⟨q, rfl⟩ : ∃ r, q = r + 1 := ⟨q - 1, by omega⟩
  exact D_swap ⟨by simpa using h, by simpa using h2⟩
theorem min2_swap {A B : Nat → Nat} {p q : Nat} (hp : 1 ≤ p) (hq : 1 ≤ q) (h : A p = B (q - 1)) (h2 : A (p - 1) = B q) :
    (if (D A B (p - 1) (q - 1) : Int) + 1 < (M A B p q : Int) then (D A B (p - 1) (q - 1) : Int) + 1 else (M A B p q : Int)) = (D A B (p + 1) (q + 1) : Int) := by
  rw [D_swap' hp hq h h2]; split <;> omega
theorem F3_here (A B : Nat → Nat) (p q : Nat) : F3 A B p q (p + 1) (q + 1) = M A B p q := by unfold F3; rw [if_pos ⟨rfl, rfl⟩]
theorem F3_D (A B : Nat → Nat) {p q r j : Nat} (h : r < p + 1) : F3 A B p q r j = D A B r j := by
  unfold F3; rw [if_neg (by omega), F2_D _ _ (by omega)]

set_option maxHeartbeats 2000000 in
set_option maxRecDepth 100000 in
theorem ed_any (a b : ByteArray) (w : World) (ha : a.size ≤ 2000) (hb : b.size ≤ 2000) :
    Calls Try.prog 14 #[.string a, .string b] w fun e w' => e = .returned (.int .i64 (dist a b : Nat)) ∧ Below w.heap.size w w' := by
  have hm1 := run_make_row' (P := Try.prog) 29 30 (.slice none 0 0) 24 Try.underlying29 Try.info30 rfl .i64 .i64 (a.size + 1) (by omega) (by omega)
  have ea : ((a.size + 1 : Nat) : Int) = (a.size : Int) + 1 := by omega
  rw [ea] at hm1
  go_enter Try.func14, Try.ntmps14
  go_wp2
  go_loopw [17] (fun i wr => ∃ c : Nat, c ≤ a.size + 1 ∧ i = .int .i64 c ∧ Made w wr (a.size + 1) (b.size + 1) c) (fun i _ => a.size + 1 - (intOf i).toNat)
  case atStart => exact ⟨0, by omega, rfl, made_start w _ _⟩
  case round =>
    obtain ⟨c, hc, rfl, hM⟩ := hrel
    clear hm1
    by_cases hlt : c < a.size + 1
    · have hm2 := run_make_row' (P := Try.prog) 30 3 (.int .i64 0) 8 Try.underlying30 Try.info3 rfl .i64 .i64 (b.size + 1) (by omega) (by omega)
      have eb : ((b.size + 1 : Nat) : Int) = (b.size : Int) + 1 := by omega
      rw [eb] at hm2
      have hsize := hM.size
      have hst1 : ∀ o, (wr.alloc o).cell? ⟨w.heap.size, c, none⟩ = some (top w.heap.size (b.size + 1) c c) := fun o => (hM.top.alloc o).cell hlt
      have hst2 : ∀ o, (wr.alloc o).frozen? ⟨w.heap.size, c, none⟩ = false := fun o => (hM.top.alloc o).frozen c
      have hmc : (madeCells #[Value.int .i64 0] (b.size + 1))[0]? = some (.int .i64 0) := by simp [madeCells]
      go_wp2
      go_roundw
      case rel => exact ⟨c + 1, by omega, by go_num, made_step hM⟩
      case measure => simp [intOf]; omega
    · obtain rfl : c = a.size + 1 := by omega
      have hT := F1_start (tab_of hM)
      clear hM
      have t0 := hT.top 0 (by omega)
      simp only [Nat.add_zero] at t0
      go_wp2
      clear t0
      go_loopw [38] (fun i wi => ∃ q : Nat, q ≤ b.size + 1 ∧ i = .int .i64 q ∧ Tab w wi (a.size + 1) (b.size + 1) (F1 q)) (fun i _ => b.size + 1 - (intOf i).toNat)
      case atStart => exact ⟨0, by omega, rfl, hT⟩
      case round =>
        clear hT
        obtain ⟨q, hq, rfl, hT⟩ := hrel
        have t0 := hT.top 0 (by omega)
        simp only [Nat.add_zero] at t0
        by_cases hlt2 : q < b.size + 1
        · have t1 := hT.cell (r := 0) (j := q) (by omega) hlt2
          have t2 := hT.frozen (r := 0) (by omega) q
          simp only [Nat.add_zero] at t1 t2
          go_wp2
          go_roundw
          case rel => exact ⟨q + 1, by omega, by go_num, F1_step hT⟩
          case measure => simp [intOf]; omega
        · obtain rfl : q = b.size + 1 := by omega
          have hT2 := F1_done (A := bat a) (B := bat b) hT
          clear hT t0
          go_wp2
          go_loopw [8] (fun i wi => ∃ p : Nat, p ≤ a.size ∧ i = .int .i64 ((p : Int) + 1) ∧ Tab w wi (a.size + 1) (b.size + 1) (F2 (bat a) (bat b) (p + 1) 1)) (fun i _ => a.size + 1 - (intOf i).toNat)
          case atStart => exact ⟨0, by omega, rfl, hT2⟩
          case round =>
            clear hT2
            obtain ⟨p, hp, rfl, hT⟩ := hrel
            by_cases hlt3 : p < a.size
            · go_wp2
              go_loopw [9] (fun j wj => ∃ q : Nat, q ≤ b.size ∧ j = .int .i64 ((q : Int) + 1) ∧ Tab w wj (a.size + 1) (b.size + 1) (F2 (bat a) (bat b) (p + 1) (q + 1))) (fun j _ => b.size + 1 - (intOf j).toNat)
              case atStart => exact ⟨0, by omega, rfl, hT⟩
              case round =>
                clear hT
                obtain ⟨q, hq, rfl, hT⟩ := hrel
                by_cases hlt4 : q < b.size
                · have tp := hT.top p (by omega)
                  have tp1 := hT.top (p + 1) (by omega)
                  have v00 := hT.cell (r := p) (j := q) (by omega) (by omega)
                  have v01 := hT.cell (r := p) (j := q + 1) (by omega) (by omega)
                  have v10 := hT.cell (r := p + 1) (j := q) (by omega) (by omega)
                  have v11 := hT.cell (r := p + 1) (j := q + 1) (by omega) (by omega)
                  have f11 := hT.frozen (r := p + 1) (by omega) (q + 1)
                  rw [F2_D _ _ (by omega)] at v00 v01 v10
                  have b00 := D_upper (bat a) (bat b) p q
                  have b01 := D_upper (bat a) (bat b) p (q + 1)
                  have b10 := D_upper (bat a) (bat b) (p + 1) q
                  have c00 : D (bat a) (bat b) p q ≤ 4000 := by omega
                  have c01 : D (bat a) (bat b) p (q + 1) ≤ 4000 := by omega
                  have c10 : D (bat a) (bat b) (p + 1) q ≤ 4000 := by omega
                  clear b00 b01 b10
                  have hmin := @run_min3 Try.prog
                  have ip : (p : Int) < (a.size : Int) := by omega
                  have iq : (q : Int) < (b.size : Int) := by omega
                  by_cases hE : bat a p = bat b q
                  · have hne := bne_no (a := a) (b := b) hlt3 hlt4 hE
                    have hm3 := min3_same (A := bat a) (B := bat b) hE
                    clear hE
                    go_wp2
                    go_quiet (fail)
                    go_wp2
                    refine wp_region_tail 26 (by kernel_rfl) (by kernel_rfl) ?_
                    simp only [List.take_succ_cons, List.take_zero, List.drop_succ_cons, List.drop_zero]
                    repeat (go_big_quiet_step (fail))
                    refine wpQuiet_nil ?_
                    go_wp2_with fail
                    have hT3 := F2_M (hT.drewN (k := nq + 1))
                    generalize ((wr.drewN (nq + 1)).setCell ⟨w.heap.size + 1 + (p + 1), q + 1, none⟩ (.int .i64 (M (bat a) (bat b) p q : Int))) = wx at hT3 ⊢
                    clear tp tp1 v00 v01 v10 v11 f11 hT c00 c01 c10 hm3 hmin
                    by_cases g1 : 1 ≤ p
                    · have g1' : (1 : Int) < (p : Int) + 1 := by omega
                      by_cases g2 : 1 ≤ q
                      · have g2' : (1 : Int) < (q : Int) + 1 := by omega
                        have ia : p - 1 < a.size := by omega
                        have ib : q - 1 < b.size := by omega
                        have j1 : (2 : Int) ≤ (q : Int) + 1 := by omega
                        have j2 : (q : Int) + 1 - 2 < (b.size : Int) := by omega
                        have j3 : (2 : Int) ≤ (p : Int) + 1 := by omega
                        have j4 : (p : Int) + 1 - 2 < (a.size : Int) := by omega
                        by_cases g3 : bat a p = bat b (q - 1)
                        · have t3 := beq_yes (a := a) (b := b) hlt3 ib rfl rfl g3
                          by_cases g4 : bat a (p - 1) = bat b q
                          · have t4 := beq_yes (a := a) (b := b) ia hlt4 rfl rfl g4
                            have hm2 := min2_swap (A := bat a) (B := bat b) g1 g2 g3 g4
                            clear g3 g4
                            go_quiet (fail)
                            go_wp2_with fail
                            have tp1 := hT3.top (p + 1) (by omega)
                            have tp0 := hT3.top (p - 1) (by omega)
                            have v11 := hT3.cell (r := p + 1) (j := q + 1) (by omega) (by omega)
                            have f11 := hT3.frozen (r := p + 1) (by omega) (q + 1)
                            have v00 := hT3.cell (r := p - 1) (j := q - 1) (by omega) (by omega)
                            rw [F3_here] at v11
                            rw [F3_D _ _ (by omega)] at v00
                            have b00 := D_upper (bat a) (bat b) (p - 1) (q - 1)
                            have c00 : D (bat a) (bat b) (p - 1) (q - 1) ≤ 4000 := by omega
                            clear b00 t3 t4
                            refine wp_region_tail 24 (by kernel_rfl) (by kernel_rfl) ?_
                            simp only [List.take_succ_cons, List.take_zero, List.drop_succ_cons, List.drop_zero]
                            repeat (go_big_quiet_step (fail))
                            refine wpQuiet_nil ?_
                            go_wp2
                            go_roundw
                            case rel => exact ⟨q + 1, by omega, by go_num, F3_swap hT3.drewN⟩
                            case measure => simp [intOf]; omega
                          · have t4 := beq_no (a := a) (b := b) ia hlt4 rfl rfl g4
                            have E := D_plain (A := bat a) (B := bat b) (i := p) (j := q) (fun h => g4 h.2.2.2)
                            have E' : Hid (D (bat a) (bat b) (p + 1) (q + 1) = M (bat a) (bat b) p q) := E
                            clear g3 g4 E
                            go_quiet (fail)
                            go_wp2
                            go_roundw
                            case rel => exact ⟨q + 1, by omega, by go_num, F3_plain hT3.drewN E'.out⟩
                            case measure => simp [intOf]; omega
                        · have t3 := beq_no (a := a) (b := b) hlt3 ib rfl rfl g3
                          have E := D_plain (A := bat a) (B := bat b) (i := p) (j := q) (fun h => g3 h.2.2.1)
                          have E' : Hid (D (bat a) (bat b) (p + 1) (q + 1) = M (bat a) (bat b) p q) := E
                          clear g3 E
                          go_quiet (fail)
                          go_wp2
                          go_roundw
                          case rel => exact ⟨q + 1, by omega, by go_num, F3_plain hT3.drewN E'.out⟩
                          case measure => simp [intOf]; omega
                      · have g2' : decide ((1 : Int) < (q : Int) + 1) = false := decide_eq_false (by omega)
                        have E := D_plain (A := bat a) (B := bat b) (i := p) (j := q) (fun h => g2 h.2.1)
                        have E' : Hid (D (bat a) (bat b) (p + 1) (q + 1) = M (bat a) (bat b) p q) := E
                        clear E
                        go_quiet (fail)
                        go_wp2
                        go_roundw
                        case rel => exact ⟨q + 1, by omega, by go_num, F3_plain hT3.drewN E'.out⟩
                        case measure => simp [intOf]; omega
                    · have g1' : decide ((1 : Int) < (p : Int) + 1) = false := decide_eq_false (by omega)
                      have E := D_plain (A := bat a) (B := bat b) (i := p) (j := q) (fun h => g1 h.1)
                      have E' : Hid (D (bat a) (bat b) (p + 1) (q + 1) = M (bat a) (bat b) p q) := E
                      clear E
                      go_quiet (fail)
                      go_wp2
                      go_roundw
                      case rel => exact ⟨q + 1, by omega, by go_num, F3_plain hT3.drewN E'.out⟩
                      case measure => simp [intOf]; omega
                  · have hne := bne_yes (a := a) (b := b) hlt3 hlt4 hE
                    have hm3 := min3_other (A := bat a) (B := bat b) hE
                    clear hE
                    go_wp2
                    go_quiet (fail)
                    go_wp2
                    refine wp_region_tail 26 (by kernel_rfl) (by kernel_rfl) ?_
                    simp only [List.take_succ_cons, List.take_zero, List.drop_succ_cons, List.drop_zero]
                    repeat (go_big_quiet_step (fail))
                    refine wpQuiet_nil ?_
                    go_wp2_with fail
                    have hT3 := F2_M (hT.drewN (k := nq + 1))
                    generalize ((wr.drewN (nq + 1)).setCell ⟨w.heap.size + 1 + (p + 1), q + 1, none⟩ (.int .i64 (M (bat a) (bat b) p q : Int))) = wx at hT3 ⊢
                    clear tp tp1 v00 v01 v10 v11 f11 hT c00 c01 c10 hm3 hmin
                    by_cases g1 : 1 ≤ p
                    · have g1' : (1 : Int) < (p : Int) + 1 := by omega
                      by_cases g2 : 1 ≤ q
                      · have g2' : (1 : Int) < (q : Int) + 1 := by omega
                        have ia : p - 1 < a.size := by omega
                        have ib : q - 1 < b.size := by omega
                        have j1 : (2 : Int) ≤ (q : Int) + 1 := by omega
                        have j2 : (q : Int) + 1 - 2 < (b.size : Int) := by omega
                        have j3 : (2 : Int) ≤ (p : Int) + 1 := by omega
                        have j4 : (p : Int) + 1 - 2 < (a.size : Int) := by omega
                        by_cases g3 : bat a p = bat b (q - 1)
                        · have t3 := beq_yes (a := a) (b := b) hlt3 ib rfl rfl g3
                          by_cases g4 : bat a (p - 1) = bat b q
                          · have t4 := beq_yes (a := a) (b := b) ia hlt4 rfl rfl g4
                            have hm2 := min2_swap (A := bat a) (B := bat b) g1 g2 g3 g4
                            clear g3 g4
                            go_quiet (fail)
                            go_wp2_with fail
                            have tp1 := hT3.top (p + 1) (by omega)
                            have tp0 := hT3.top (p - 1) (by omega)
                            have v11 := hT3.cell (r := p + 1) (j := q + 1) (by omega) (by omega)
                            have f11 := hT3.frozen (r := p + 1) (by omega) (q + 1)
                            have v00 := hT3.cell (r := p - 1) (j := q - 1) (by omega) (by omega)
                            rw [F3_here] at v11
                            rw [F3_D _ _ (by omega)] at v00
                            have b00 := D_upper (bat a) (bat b) (p - 1) (q - 1)
                            have c00 : D (bat a) (bat b) (p - 1) (q - 1) ≤ 4000 := by omega
                            clear b00 t3 t4
                            refine wp_region_tail 24 (by kernel_rfl) (by kernel_rfl) ?_
                            simp only [List.take_succ_cons, List.take_zero, List.drop_succ_cons, List.drop_zero]
                            repeat (go_big_quiet_step (fail))
                            refine wpQuiet_nil ?_
                            go_wp2
                            go_roundw
                            case rel => exact ⟨q + 1, by omega, by go_num, F3_swap hT3.drewN⟩
                            case measure => simp [intOf]; omega
                          · have t4 := beq_no (a := a) (b := b) ia hlt4 rfl rfl g4
                            have E := D_plain (A := bat a) (B := bat b) (i := p) (j := q) (fun h => g4 h.2.2.2)
                            have E' : Hid (D (bat a) (bat b) (p + 1) (q + 1) = M (bat a) (bat b) p q) := E
                            clear g3 g4 E
                            go_quiet (fail)
                            go_wp2
                            go_roundw
                            case rel => exact ⟨q + 1, by omega, by go_num, F3_plain hT3.drewN E'.out⟩
                            case measure => simp [intOf]; omega
                        · have t3 := beq_no (a := a) (b := b) hlt3 ib rfl rfl g3
                          have E := D_plain (A := bat a) (B := bat b) (i := p) (j := q) (fun h => g3 h.2.2.1)
                          have E' : Hid (D (bat a) (bat b) (p + 1) (q + 1) = M (bat a) (bat b) p q) := E
                          clear g3 E
                          go_quiet (fail)
                          go_wp2
                          go_roundw
                          case rel => exact ⟨q + 1, by omega, by go_num, F3_plain hT3.drewN E'.out⟩
                          case measure => simp [intOf]; omega
                      · have g2' : decide ((1 : Int) < (q : Int) + 1) = false := decide_eq_false (by omega)
                        have E := D_plain (A := bat a) (B := bat b) (i := p) (j := q) (fun h => g2 h.2.1)
                        have E' : Hid (D (bat a) (bat b) (p + 1) (q + 1) = M (bat a) (bat b) p q) := E
                        clear E
                        go_quiet (fail)
                        go_wp2
                        go_roundw
                        case rel => exact ⟨q + 1, by omega, by go_num, F3_plain hT3.drewN E'.out⟩
                        case measure => simp [intOf]; omega
                    · have g1' : decide ((1 : Int) < (p : Int) + 1) = false := decide_eq_false (by omega)
                      have E := D_plain (A := bat a) (B := bat b) (i := p) (j := q) (fun h => g1 h.1)
                      have E' : Hid (D (bat a) (bat b) (p + 1) (q + 1) = M (bat a) (bat b) p q) := E
                      clear E
                      go_quiet (fail)
                      go_wp2
                      go_roundw
                      case rel => exact ⟨q + 1, by omega, by go_num, F3_plain hT3.drewN E'.out⟩
                      case measure => simp [intOf]; omega
                · obtain rfl : q = b.size := by omega
                  go_wp2
                  go_roundw
                  case rel => exact ⟨p + 1, by omega, by go_num, F2_row hT⟩
                  case measure => simp [intOf]; omega
            · obtain rfl : p = a.size := by omega
              have tp := hT.top a.size (by omega)
              have v := hT.cell (r := a.size) (j := b.size) (by omega) (by omega)
              rw [F2_D _ _ (by omega)] at v
              go_wp2
              go_ret
              exact ⟨rfl, hT.below⟩
end Go.Proofs.Qxb6603058a
