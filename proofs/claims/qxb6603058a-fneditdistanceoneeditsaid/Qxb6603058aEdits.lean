import Derived.Test.Qxb6603058aZz
import Derived.Laws.BytesArg
import Derived.Laws.IdiomStrings
namespace Go.Proofs.Qxb6603058a
open Go.RowKit

theorem bat_append (x y : ByteArray) (k : Nat) : bat (x ++ y) k = if k < x.size then bat x k else bat y (k - x.size) := by
  unfold bat
  by_cases h : k < x.size
  · rw [if_pos h, dif_pos h, dif_pos (by rw [ByteArray.size_append]; omega), ByteArray.getElem_append_left h]
  · rw [if_neg h]
    by_cases h2 : k < (x ++ y).size
    · have h3 : k - x.size < y.size := by rw [ByteArray.size_append] at h2; omega
      rw [dif_pos h2, dif_pos h3, ByteArray.getElem_append_right (by omega)]
    · have h3 : ¬ k - x.size < y.size := by rw [ByteArray.size_append] at h2; omega
      rw [dif_neg h2, dif_neg h3]
theorem bat_extract (a : ByteArray) (s e k : Nat) (he : e ≤ a.size) (hk : k < e - s) : bat (a.extract s e) k = bat a (s + k) := by
  have h1 : k < (a.extract s e).size := by rw [ByteArray.size_extract]; omega
  rw [bat_at h1, bat_at (show s + k < a.size by omega), ByteArray.getElem_extract]

/-! ### the edited strings -/
def insS (a o : ByteArray) (i : Nat) : ByteArray := a.extract 0 i ++ o ++ a.extract i a.size
def delS (a : ByteArray) (i : Nat) : ByteArray := a.extract 0 i ++ a.extract (i + 1) a.size
def subS (a o : ByteArray) (i : Nat) : ByteArray := a.extract 0 i ++ o ++ a.extract (i + 1) a.size

theorem insS_size {a o : ByteArray} {i : Nat} (ho : o.size = 1) (hi : i ≤ a.size) : (insS a o i).size = a.size + 1 := by
  unfold insS; simp only [ByteArray.size_append, ByteArray.size_extract]; omega
theorem delS_size {a : ByteArray} {i : Nat} (hi : i < a.size) : (delS a i).size + 1 = a.size := by
  unfold delS; simp only [ByteArray.size_append, ByteArray.size_extract]; omega
theorem subS_size {a o : ByteArray} {i : Nat} (ho : o.size = 1) (hi : i < a.size) : (subS a o i).size = a.size := by
  unfold subS; simp only [ByteArray.size_append, ByteArray.size_extract]; omega
theorem insS_lo {a o : ByteArray} {i k : Nat} (hi : i ≤ a.size) (hk : k < i) : bat (insS a o i) k = bat a k := by
  unfold insS
  rw [bat_append, if_pos (by simp only [ByteArray.size_append, ByteArray.size_extract]; omega), bat_append, if_pos (by simp only [ByteArray.size_extract]; omega), bat_extract _ _ _ _ hi (by omega)]
  congr 1; omega
theorem insS_hi {a o : ByteArray} {i k : Nat} (ho : o.size = 1) (hi : i ≤ a.size) (hk : i ≤ k) (hk2 : k < a.size) : bat (insS a o i) (k + 1) = bat a k := by
  unfold insS
  rw [bat_append, if_neg (by simp only [ByteArray.size_append, ByteArray.size_extract]; omega), bat_extract _ _ _ _ (Nat.le_refl _) (by simp only [ByteArray.size_append, ByteArray.size_extract]; omega)]
  congr 1; simp only [ByteArray.size_append, ByteArray.size_extract]; omega
theorem delS_lo {a : ByteArray} {i k : Nat} (hi : i < a.size) (hk : k < i) : bat (delS a i) k = bat a k := by
  unfold delS
  rw [bat_append, if_pos (by simp only [ByteArray.size_extract]; omega), bat_extract _ _ _ _ (by omega) (by omega)]
  congr 1; omega
theorem delS_hi {a : ByteArray} {i k : Nat} (hi : i < a.size) (hk : i ≤ k) (hk2 : k + 1 < a.size) : bat (delS a i) k = bat a (k + 1) := by
  unfold delS
  rw [bat_append, if_neg (by simp only [ByteArray.size_extract]; omega), bat_extract _ _ _ _ (Nat.le_refl _) (by simp only [ByteArray.size_extract]; omega)]
  congr 1; simp only [ByteArray.size_extract]; omega
theorem subS_lo {a o : ByteArray} {i k : Nat} (hi : i < a.size) (hk : k < i) : bat (subS a o i) k = bat a k := by
  unfold subS
  rw [bat_append, if_pos (by simp only [ByteArray.size_append, ByteArray.size_extract]; omega), bat_append, if_pos (by simp only [ByteArray.size_extract]; omega), bat_extract _ _ _ _ (by omega) (by omega)]
  congr 1; omega
theorem subS_at {a o : ByteArray} {i : Nat} (ho : o.size = 1) (hi : i < a.size) : bat (subS a o i) i = bat o 0 := by
  unfold subS
  rw [bat_append, if_pos (by simp only [ByteArray.size_append, ByteArray.size_extract]; omega), bat_append, if_neg (by simp only [ByteArray.size_extract]; omega)]
  congr 1; simp only [ByteArray.size_extract]; omega
theorem subS_hi {a o : ByteArray} {i k : Nat} (ho : o.size = 1) (hi : i < a.size) (hk : i < k) (hk2 : k < a.size) : bat (subS a o i) k = bat a k := by
  unfold subS
  rw [bat_append, if_neg (by simp only [ByteArray.size_append, ByteArray.size_extract]; omega), bat_extract _ _ _ _ (Nat.le_refl _) (by simp only [ByteArray.size_append, ByteArray.size_extract]; omega)]
  congr 1; simp only [ByteArray.size_append, ByteArray.size_extract]; omega

theorem dist_ins {a o : ByteArray} {i : Nat} (ho : o.size = 1) (hi : i ≤ a.size) : dist a (insS a o i) = 1 := by
  unfold dist; rw [insS_size ho hi]
  exact D_insert _ i hi (fun k hk => (insS_lo hi hk).symm) (fun k h1 h2 => (insS_hi ho hi h1 h2).symm)
theorem dist_ins' {a o : ByteArray} {i : Nat} (ho : o.size = 1) (hi : i ≤ a.size) : dist (insS a o i) a = 1 := by
  unfold dist; rw [insS_size ho hi]
  exact D_delete _ i hi (fun k hk => insS_lo hi hk) (fun k h1 h2 => insS_hi ho hi h1 h2)
theorem dist_del {a : ByteArray} {i : Nat} (hi : i < a.size) : dist a (delS a i) = 1 := by
  have hs := delS_size hi
  unfold dist; rw [← hs]
  exact D_delete _ i (by omega) (fun k hk => (delS_lo hi hk).symm) (fun k h1 h2 => (delS_hi hi h1 (by omega)).symm)
theorem dist_del' {a : ByteArray} {i : Nat} (hi : i < a.size) : dist (delS a i) a = 1 := by
  have hs := delS_size hi
  unfold dist; rw [← hs]
  exact D_insert _ i (by omega) (fun k hk => delS_lo hi hk) (fun k h1 h2 => delS_hi hi h1 (by omega))
theorem dist_sub {a o : ByteArray} {i : Nat} (ho : o.size = 1) (hi : i < a.size) (hne : bat o 0 ≠ bat a i) : dist a (subS a o i) = 1 := by
  unfold dist; rw [subS_size ho hi]
  refine D_subst _ i hi (by rw [subS_at ho hi]; exact fun h => hne h.symm) (fun k hk hki => ?_)
  by_cases c : k < i
  · exact (subS_lo hi c).symm
  · exact (subS_hi ho hi (by omega) hk).symm

/-- Its neighbours at i changed. -/
def swapL (a : ByteArray) (i : Nat) : List UInt8 := (a.data.toList.set i (a.data.toList.getD (i + 1) 0)).set (i + 1) (a.data.toList.getD i 0)
theorem list_len (a : ByteArray) : a.data.toList.length = a.size := Array.length_toList
theorem swapL_length (a : ByteArray) (i : Nat) : (swapL a i).length = a.size := by unfold swapL; rw [List.length_set, List.length_set]; exact list_len a
theorem bat_list (a : ByteArray) (k : Nat) : bat a k = (a.data.toList.getD k 0).toNat := by
  by_cases h : k < a.size
  · have h' : k < a.data.toList.length := by rw [list_len]; exact h
    rw [bat_at h, List.getD_eq_getElem?_getD, List.getElem?_eq_getElem h']
    rfl
  · have h' : a.data.toList.length ≤ k := by rw [list_len]; exact Nat.le_of_not_lt h
    unfold bat
    rw [dif_neg h, List.getD_eq_getElem?_getD, List.getElem?_eq_none h']
    rfl
theorem swapL_at (a : ByteArray) (i k : Nat) (hi : i + 1 < a.size) : ((swapL a i).getD k 0).toNat = if k = i then bat a (i + 1) else if k = i + 1 then bat a i else bat a k := by
  have hl := list_len a
  unfold swapL
  rw [List.getD_eq_getElem?_getD, List.getElem?_set, List.length_set, List.getElem?_set]
  by_cases c : k = i
  · subst c
    rw [if_neg (by omega), if_pos rfl, if_pos (by omega), if_pos rfl, bat_list]; rfl
  · by_cases d : k = i + 1
    · subst d
      rw [if_pos rfl, if_pos (by omega), if_neg (by omega), if_pos rfl, bat_list]; rfl
    · rw [if_neg (by omega), if_neg (by omega), if_neg c, if_neg d, bat_list, List.getD_eq_getElem?_getD]
theorem dist_swap {a : ByteArray} {i : Nat} (hi : i + 1 < a.size) (hne : bat a i ≠ bat a (i + 1)) : dist a ⟨(swapL a i).toArray⟩ = 1 := by
  have hs : (ByteArray.mk (swapL a i).toArray).size = a.size := by rw [← swapL_length a i]; exact List.size_toArray
  have hb : ∀ k, bat ⟨(swapL a i).toArray⟩ k = if k = i then bat a (i + 1) else if k = i + 1 then bat a i else bat a k := fun k => by
    rw [← swapL_at a i k hi, bat_list]
  unfold dist; rw [hs]
  refine D_swapped _ i hi ?_ ?_ ?_ (fun k hk h1 h2 => ?_)
  · rw [hb, if_pos rfl]; exact hne
  · rw [hb, if_pos rfl]
  · rw [hb, if_neg (by omega), if_pos rfl]
  · rw [hb, if_neg h1, if_neg h2]

/-! ### contracts -/
theorem zz_one (a b : ByteArray) (w : World) (h : Hid (dist a b = 1)) (ha : a.size ≤ 2000) (hb : b.size ≤ 2000) :
    Calls Try.prog 8 #[.string a, .string b] w fun e w' => e = .returned (.int .i64 1) ∧ Below w.heap.size w w' := by
  have := zz_any a b w ha hb
  rw [h.out] at this; exact this

theorem one_size (c : Nat) : (strOfNums [(c : Int)]).size = 1 := strOfNums_size _
theorem one_bat (c : Nat) (hc : c < 256) : bat (strOfNums [(c : Int)]) 0 = c := by
  rw [bat_list, strOfNums_data]
  show (UInt8.ofNat _).toNat = c
  simp; omega
theorem conv_one (c : Nat) (w : World) : (convert 26 9 (.slice (some ⟨w.heap.size, 0, none⟩) 1 1)).run Try.prog (w.alloc (.cells #[.int .u8 (c : Int)] 5)) = .ok (.string (strOfNums [(c : Int)])) (w.alloc (.cells #[.int .u8 (c : Int)] 5)) :=
  run_convert_bytes_arg _ 26 5 Try.underlying26 Try.underlying5 w.heap.size 0 1 1 [(c : Int)] rfl (fun i hi => by
    obtain rfl : i = 0 := by omega
    simp) 9 Try.underlying9

/-- The block that '[]byte(a)' lays. -/
def brow (a : ByteArray) (cp : Nat) : Obj := .cells (bytesRow a cp) 5 ((bytesRow a cp).size, (bytesRow a cp).size + 1)
theorem conv_bytes (a : ByteArray) (w : World) : (convert 9 26 (.string a)).run Try.prog w = .ok (.slice (some ⟨w.heap.size, 0, none⟩) a.size (grownCap w a.size 0 5)) (w.drew.alloc (brow a (grownCap w a.size 0 5))) :=
  run_bytes_of_string w 9 26 5 a Try.underlying9 Try.underlying26 Try.underlying5
theorem brow_cell (a : ByteArray) (cp j : Nat) (hj : j < a.size) (w : World) : (w.alloc (brow a cp)).cell? ⟨w.heap.size, j, none⟩ = some (.int .u8 ((a[j]'hj).toNat : Int)) := by
  unfold brow; rw [World.cell?_alloc_mark, bytesRow_at a cp j hj]; rfl
theorem brow_size (a : ByteArray) (cp : Nat) : a.size ≤ (bytesRow a cp).size := by
  unfold bytesRow; rw [Array.size_append, Array.size_map]; exact Nat.le_add_right _ _
theorem brow_frozen (a : ByteArray) (cp j : Nat) (hj : j < a.size) (w : World) : (w.alloc (brow a cp)).frozen? ⟨w.heap.size, j, none⟩ = false := by
  unfold brow; rw [World.frozen?_alloc_mark]
  have := brow_size a cp
  rw [decide_eq_false (by omega)]; rfl
/-- Behind the two stores the bytes read as the swapped list. -/
theorem brow_swapped (a : ByteArray) (cp i : Nat) (hi : i + 1 < a.size) (w : World) :
    ∀ j (hj : j < (swapL a i).length), (((w.alloc (brow a cp)).setCell ⟨w.heap.size, i, none⟩ (.int .u8 ((a[i + 1]'hi).toNat : Int))).setCell ⟨w.heap.size, i + 1, none⟩ (.int .u8 ((a[i]'(by omega)).toNat : Int))).cell? ((⟨w.heap.size, 0, none⟩ : Addr).add j) = some (.int .u8 ((swapL a i)[j].toNat : Int)) := by
  intro j hj
  have hj' : j < a.size := by rw [swapL_length] at hj; exact hj
  have e0 : (⟨w.heap.size, 0, none⟩ : Addr).add j = ⟨w.heap.size, j, none⟩ := by unfold Addr.add; split <;> simp_all
  have e1 : ((swapL a i)[j].toNat) = if j = i then bat a (i + 1) else if j = i + 1 then bat a i else bat a j := by
    rw [← swapL_at a i j hi, List.getD_eq_getElem?_getD, List.getElem?_eq_getElem hj]; rfl
  have c0 := brow_cell a cp j hj' w
  rw [e0, e1]
  have ne1 : (⟨w.heap.size, i, none⟩ : Addr) ≠ ⟨w.heap.size, i + 1, none⟩ := fun h => by injection h with _ h2; omega
  have ne2 : j ≠ i + 1 → (⟨w.heap.size, i + 1, none⟩ : Addr) ≠ ⟨w.heap.size, j, none⟩ := fun d h => by injection h with _ h2; omega
  have ne3 : j ≠ i → (⟨w.heap.size, i, none⟩ : Addr) ≠ ⟨w.heap.size, j, none⟩ := fun d h => by injection h with _ h2; omega
  by_cases d : j = i + 1
  · subst d
    rw [if_neg (by omega), if_pos rfl, bat_at (show i < a.size by omega)]
    exact World.cell?_setCell_same _ _ _ ((World.cell?_setCell_other _ _ _ _ ne1).trans c0)
  · rw [World.cell?_setCell_other _ _ _ _ (ne2 d)]
    by_cases c : j = i
    · subst c
      rw [if_pos rfl, bat_at hi]
      exact World.cell?_setCell_same _ _ _ c0
    · rw [World.cell?_setCell_other _ _ _ _ (ne3 c), if_neg c, if_neg d, bat_at hj']
      exact c0
theorem conv_back (a : ByteArray) (cp i cap : Nat) (hi : i + 1 < a.size) (w : World) :
    (convert 26 9 (.slice (some ⟨w.heap.size, 0, none⟩) a.size cap)).run Try.prog ((((w.alloc (brow a cp)).setCell ⟨w.heap.size, i, none⟩ (.int .u8 ((a[i + 1]'hi).toNat : Int))).setCell ⟨w.heap.size, i + 1, none⟩ (.int .u8 ((a[i]'(by omega)).toNat : Int))).drew)
     = .ok (.string ⟨(swapL a i).toArray⟩) ((((w.alloc (brow a cp)).setCell ⟨w.heap.size, i, none⟩ (.int .u8 ((a[i + 1]'hi).toNat : Int))).setCell ⟨w.heap.size, i + 1, none⟩ (.int .u8 ((a[i]'(by omega)).toNat : Int))).drew) := by
  have h := run_convert_bytes_back (P := Try.prog) ((((w.alloc (brow a cp)).setCell ⟨w.heap.size, i, none⟩ (.int .u8 ((a[i + 1]'hi).toNat : Int))).setCell ⟨w.heap.size, i + 1, none⟩ (.int .u8 ((a[i]'(by omega)).toNat : Int))).drew) 26 9 5 ⟨w.heap.size, 0, none⟩ cap (swapL a i) Try.underlying26 Try.underlying5 Try.underlying9 (fun j hj => brow_swapped a cp i hi w j hj)
  rw [swapL_length] at h
  exact h

end Go.Proofs.Qxb6603058a
