/-
  The contract of errors.Join, for every list of errors: nil if all are nil, otherwise a new joined error that holds those that are not nil, in order.
  Conditions: the list takes at most 2^47 - 4096 bytes.
-/
import Derived.Test.YtgkhnccedejjnaaProg
import Derived.Test.YtgkhnccedejjnaaMem
namespace Go.Proofs.Ytgkhnccedejjnaa
open Go.RowKit

/-- Whether an error is nil. -/
def nilB : Value → Bool
  | .nilIface => true
  | _ => false
/-- The errors that are not nil. -/
def there (xs : List Value) : List Value := xs.filter fun x => !nilB x
/-- An interface value. -/
def IsErr (x : Value) : Prop := x = .nilIface ∨ ∃ t u, x = .iface t u

theorem elemErr : Elem Try.prog 41 38 1 16 := Elem.mk Try.underlying41 (z := .nilIface) (by kernel_rfl) rfl (by decide) (by decide)

theorem there_take_succ (xs : List Value) (k : Nat) (h : k < xs.length) : there (xs.take (k + 1)) = there (xs.take k) ++ there [xs[k]] := by
  rw [List.take_succ_eq_append_getElem h, there, List.filter_append]; rfl
theorem there_length_le (xs : List Value) (k : Nat) : (there (xs.take k)).length ≤ k := by
  have := List.length_filter_le (fun x => !nilB x) (xs.take k)
  have h2 : (xs.take k).length ≤ k := List.length_take_le _ _
  unfold there; omega

set_option maxHeartbeats 1000000 in
theorem join_any (v : Value) (xs : List Value) (w : World) (h : Vals w v xs) (hx : ∀ x ∈ xs, IsErr x) (hr : xs.length * 16 ≤ 140737488351232) :
    Calls Try.prog 17 #[v] w fun e w' => Below w.heap.size w w' ∧
      ((there xs = [] ∧ e = .returned .nilIface) ∨ (there xs ≠ [] ∧ ∃ g sv, e = .returned (.iface 50 (.pointer (some ⟨g, 0, none⟩))) ∧ w.heap.size ≤ g ∧ w'.heap[g]? = some (.cells #[sv] 52 (0, 0)) ∧ w'.ownsRow w.heap.size 38 1 sv (there xs).length (there xs))) := by
  have H := Lib.hid h
  have HX := Lib.hid hx
  obtain ⟨A, cap, rfl, h1, h2, h3⟩ := h
  clear h1 h2 h3 hx
  go_enter Try.func17, Try.ntmps17
  go_wp2_with fail
  go_loop [3, 11] (fun v3 v11 => ∃ k : Nat, k ≤ xs.length ∧ v11 = .int .i64 k ∧ v3 = .int .i64 ((there (xs.take k)).length : Nat)) (fun _ v11 => xs.length - (intOf v11).toNat)
  case atStart => exact ⟨0, Nat.zero_le _, rfl, rfl⟩
  case round =>
    obtain ⟨k, hk, rfl, rfl⟩ := hrel
    by_cases hlt : k < xs.length
    · obtain ⟨A', cap', hA, h1, h2, h3⟩ := H.out
      obtain ⟨b, off, rfl, hc⟩ := h3 (by omega)
      have c0 := hc k xs[k] (List.getElem?_eq_getElem hlt)
      have hA2 : A = some ⟨b, off, none⟩ := by injection hA
      subst hA2
      have HS := Lib.hid (there_take_succ xs k hlt)
      have hle := there_length_le xs k
      have hX := HX.out xs[k] (List.getElem_mem hlt)
      clear hA hc h3
      generalize xs[k] = x at *
      rcases hX with rfl | ⟨t, u, rfl⟩
      · go_wp2
        go_round
        case rel => exact ⟨k + 1, hlt, by go_num, by rw [HS.out]; simp [there, nilB]⟩
        case measure => simp [intOf]; omega
      · go_wp2
        go_round
        case rel => exact ⟨k + 1, hlt, by go_num, by rw [HS.out]; simp [there, nilB]⟩
        case measure => simp [intOf]; omega
    · obtain rfl : k = xs.length := by omega
      rw [List.take_length]
      have hle : (there xs).length ≤ xs.length := List.length_filter_le _ _
      by_cases h0 : (there xs).length = 0
      · have h00 : ((((there xs).length : Nat) : Int) == 0) = true := by rw [beq_iff_eq]; omega
        go_wp2
        go_ret
        exact ⟨Below.refl _ _, .inl ⟨List.eq_nil_of_length_eq_zero h0, rfl⟩⟩
      · have h00 : ((((there xs).length : Nat) : Int) == 0) = false := by rw [beq_eq_false_iff_ne]; omega
        obtain ⟨C, hC, hmk⟩ := elemErr.make0 (there xs).length (by omega) (by omega)
        generalize hn : (there xs).length = n at *
        go_wp2_with fail
        have hB0 : Below w.heap.size w ((w.alloc (.cells C 38)).alloc (.cells #[.slice (some ⟨w.heap.size, 0, none⟩) 0 n] 52)) :=
          ((Below.refl _ _).alloc (Nat.le_refl _) _).alloc (by simp) _
        have hO0 : ((w.alloc (.cells C 38)).alloc (.cells #[.slice (some ⟨w.heap.size, 0, none⟩) 0 n] 52)).ownsRow w.heap.size 38 1 (.slice (some ⟨w.heap.size, 0, none⟩) 0 n) 0 [] :=
          (World.ownsRow_made w C n (Nat.le_refl _) (by simp only [maxLen]; omega) hC).alloc _
        have hG0 : ((w.alloc (.cells C 38)).alloc (.cells #[.slice (some ⟨w.heap.size, 0, none⟩) 0 n] 52)).heap[w.heap.size + 1]? = some (.cells #[.slice (some ⟨w.heap.size, 0, none⟩) 0 n] 52 (0, 0)) := by
          have := heap_alloc_new (w.alloc (.cells C 38)) (.cells #[.slice (some ⟨w.heap.size, 0, none⟩) 0 n] 52)
          simpa using this
        have S0 := Lib.hid (And.intro hB0 (And.intro hO0 hG0))
        clear hB0 hO0 hG0 hC hmk
        have HN := Lib.hid hn
        clear hn
        go_loopw [28] (fun v28 wr => ∃ k g cp : Nat, k ≤ xs.length ∧ v28 = .int .i64 k ∧ Below w.heap.size w wr ∧ wr.ownsRow w.heap.size 38 1 (.slice (some ⟨g, 0, none⟩) (there (xs.take k)).length cp) (there (xs.take k)).length (there (xs.take k)) ∧ wr.heap[w.heap.size + 1]? = some (.cells #[.slice (some ⟨g, 0, none⟩) (there (xs.take k)).length cp] 52 (0, 0))) (fun v28 _ => xs.length - (intOf v28).toNat)
        case atStart => exact ⟨0, w.heap.size, n, Nat.zero_le _, rfl, S0.out.1, S0.out.2.1, S0.out.2.2⟩
        case round =>
          obtain ⟨k, g, cp, hk, rfl, hbel, hown, hg⟩ := hrel
          by_cases hlt : k < xs.length
          · obtain ⟨A', cap', hA, h1, h2, h3⟩ := H.out.keep hbel
            obtain ⟨b, off, rfl, hc⟩ := h3 (by omega)
            have c0 := hc k xs[k] (List.getElem?_eq_getElem hlt)
            have hA2 : A = some ⟨b, off, none⟩ := by injection hA
            subst hA2
            have HS := Lib.hid (there_take_succ xs k hlt)
            have hle := there_length_le xs k
            have hX := HX.out xs[k] (List.getElem_mem hlt)
            have hc1 := cell_of_heap hg 0 rfl
            have hf1 := frozen_of_heap hg 0
            have hs1 := hbel.size
            have hs2 := lt_of_heap hg
            have HG := Lib.hid hg
            clear hA hc h3 hg
            generalize xs[k] = x at *
            generalize there (xs.take k) = ys at *
            rcases hX with rfl | ⟨t, u, rfl⟩
            · have HS2 := Lib.hid (show there (xs.take (k + 1)) = ys by rw [HS.out]; simp [there, nilB])
              go_wp2_with fail
              go_roundw
              case rel => exact ⟨k + 1, g, cp, hlt, by go_num, hbel, by rw [HS2.out]; exact hown, by rw [HS2.out]; exact HG.out⟩
              case measure => simp [intOf]; omega
            · have HS2 := Lib.hid (show there (xs.take (k + 1)) = ys ++ [.iface t u] by rw [HS.out]; simp [there, nilB])
              have hne := own_ne hown HG.out (by decide)
              go_wp2_with (at_builtin; refine wpList_push rfl _ _ _ rfl elemErr rfl hown rfl rfl rfl (by simp [Value.oneCell']) (by omega) (by omega) ?_; intro g' cp' w' hown' hbel' hgr' hlt' hat'; have hg2 := (hgr'.block (w.heap.size + 1) hs2 (fun e => hne e.symm)).trans HG.out; have hc2 := cell_of_heap hg2 0 rfl; have hf2 := frozen_of_heap hg2 0; have HG2 := Lib.hid hg2; have hne2 := own_ne hown' hg2 (by decide); clear hg2 hgr' hat' hne)
              go_roundw
              case rel =>
                refine ⟨k + 1, g', cp', hlt, by go_num, (hbel.trans hbel').setCell (by simp) _, ?_, ?_⟩
                · rw [HS2.out, List.length_append, List.length_singleton]; exact hown'.kept (row := some (w.heap.size + 1)) ⟨rfl, rfl, rfl, by simp [World.setCell], fun j _ hj => Below.heap_setCell _ _ _ _ (fun e => hj (by rw [e]))⟩ (.inr hne2)
                · rw [HS2.out, List.length_append, List.length_singleton]; exact heap_setCell_same _ _ 0 _ _ _ HG2.out
              case measure => simp [intOf]; omega
          · obtain rfl : k = xs.length := by omega
            rw [List.take_length] at hown hg
            go_wp2_with fail
            go_ret
            refine ⟨hbel, .inr ⟨fun e => h0 (by rw [← HN.out, e]; rfl), w.heap.size + 1, _, rfl, by omega, hg, hown⟩⟩
end Go.Proofs.Ytgkhnccedejjnaa
