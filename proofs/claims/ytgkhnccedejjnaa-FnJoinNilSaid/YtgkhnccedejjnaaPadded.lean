/-
  The contract of the laws' padded: the first n of some truths, in a new row. An append, and a region by an invariant, at a step of a region that draws its order.
  Conditions: n is at most 64.
-/
import Derived.Test.YtgkhnccedejjnaaPlainNil
import Derived.Test.YtgkhnccedejjnaaKept
import Derived.Test.YtgkhnccedejjnaaMem2
import Derived.Deep.RegionHeld3
import Derived.Laws.CopyOwn
namespace Go.Proofs.Ytgkhnccedejjnaa
open Go.RowKit Go.Lib

theorem elemBools : Elem Try.prog 26 4 1 1 := Elem.mk Try.underlying26 (z := .bool false) (by kernel_rfl) rfl (by decide) (by decide)
theorem zeroBool : (Try.prog.info? 4).map (·.zero) = some (some (.bool false)) := by kernel_rfl
theorem sizeBool : (Try.prog.info? 4).map (·.size) = some 1 := by kernel_rfl

theorem padB_take (bs : List Bool) (n : Nat) : (padB bs n).map Value.bool = splice (List.replicate n (Value.bool false)) 0 ((bs.take n).map Value.bool) := by
  apply List.ext_getElem?
  intro j
  unfold splice padB
  simp only [List.take_zero, List.nil_append, Nat.zero_add, List.length_map, List.length_take]
  by_cases hj : j < n
  · rw [List.getElem?_map, List.getElem?_map, List.getElem?_range hj]
    by_cases hb : j < bs.length
    · rw [List.getElem?_append_left (by simp; omega)]
      simp [hj, hb]
    · rw [List.getElem?_append_right (by simp; omega)]
      simp only [List.length_map, List.length_take, List.getElem?_drop, List.getElem?_replicate]
      rw [if_pos (by omega)]
      simp [List.getElem?_eq_none (show bs.length ≤ j by omega)]
  · rw [List.getElem?_eq_none (by simp; omega), List.getElem?_eq_none (by simp; omega)]

set_option maxHeartbeats 2000000 in
theorem padded_any (nv : Value) (bs : List Bool) (n : Nat) (w : World) (hn : Bools w nv bs) (hs : n ≤ 64) :
    Calls Try.prog 15 #[nv, .int .i64 (n : Int)] w fun e w' => e = .returned (.slice (some ⟨w.heap.size, 0, none⟩) n n) ∧ w'.ownsRow w.heap.size 4 1 (.slice (some ⟨w.heap.size, 0, none⟩) n n) n ((padB bs n).map .bool) ∧ Below w.heap.size w w' := by
  obtain ⟨CS, hCS, hmk⟩ := elemBools.make zeroBool rfl n (by omega) (by omega)
  obtain ⟨NA, nc, rfl, hl1, hl2, h3⟩ := hn
  simp only [List.length_map] at *
  have hg0 : (w.alloc (.cells CS 4)).heap[w.heap.size]? = some (.cells (List.replicate n (Value.bool false)).toArray 4 (0, 0)) := by
    rw [← hCS, Array.toArray_toList]
    exact heap_alloc_new w _
  have HG0 := Lib.hid hg0
  clear hg0
  obtain ⟨X1, hX1⟩ : ∃ X1, X1 = (bs.take n).map Value.bool := ⟨_, rfl⟩
  have hXl : X1.length = Nat.min bs.length n := by rw [hX1]; simp [Nat.min_comm]
  have HX := Lib.hid hX1
  have H3 := Lib.hid h3
  have h1c : ∀ v ∈ X1, v.oneCell' = true := by
    rw [hX1]
    intro v hv
    obtain ⟨b, _, rfl⟩ := List.mem_map.1 hv
    rfl
  have HC := Lib.hid h1c
  have hsrc : ∀ W, Below w.heap.size w W → 0 < X1.length → ∃ ad, NA = some ad ∧ ∀ j v, X1[j]? = some v → W.cell? (ad.add j) = some v := by
    intro W hW hp
    obtain ⟨b, off, rfl, hc⟩ := H3.out (by rw [hXl] at hp; have hq : Nat.min bs.length n ≤ bs.length := Nat.min_le_left _ _; omega)
    refine ⟨_, rfl, fun j v hj => ?_⟩
    rw [add_none]
    refine cell_keep hW (hc j v ?_)
    rw [hX1, List.map_take, List.getElem?_take] at hj
    split at hj
    · exact hj
    · cases hj
  have HS := Lib.hid hsrc
  clear hX1 h3 h1c hsrc hCS
  go_enter Try.func15, Try.ntmps15
  go_wp2_with (refine wpList_copy_splice (o := ⟨some 10, _, _, _, _, _⟩) rfl (.tmp 8) (.tmp 9) _ _ rfl 4 Try.underlying26 sizeBool (some ⟨w.heap.size, 0, none⟩) NA n n bs.length nc rfl rfl w.heap.size 0 (List.replicate n (Value.bool false)) 4 HG0.out X1 hXl (fun hp => ⟨rfl, HS.out _ (below_alloc _ _) hp⟩) (by rw [hXl]; have hq : Nat.min bs.length n ≤ n := Nat.min_le_right _ _; rw [List.length_replicate]; omega) HC.out w.heap.size w (below_alloc _ _) (Nat.le_refl _) ?_; intro w' hw' hb')
  go_ret
  refine ⟨rfl, ?_, hb'⟩
  have h0 := hw'
  rw [HX.out, ← padB_take] at h0
  refine ⟨by simp [padB_length], .inr ⟨w.heap.size, n, ((padB bs n).map Value.bool).toArray, rfl, Nat.le_refl _, h0, Nat.le_refl _, by simp only [maxLen]; omega, by simp [padB_length], ?_⟩⟩
  rw [List.toList_toArray, List.take_of_length_le (by simp [padB_length])]

/-- Nothing is appended. -/
theorem run_append_zero {P : Program} {w : World} (base : Nat) (t ty e : TypeId) (i : TypeInfo) (size : Nat) (ht : P.underlying t = some (.slice e)) (hi : P.info? e = some i)
    (v : Value) (n : Nat) (xs : List Value) (hown : w.ownsRow base e size v n xs) (sp : Option Addr) (c : Nat) :
    (Builtin.append_ #[t, t] ty #[v, .slice sp 0 c]).run P w = .ok v w := by
  rcases hown.2 with ⟨rfl, rfl⟩ | ⟨g, cap, cur, rfl, _, _, hnc, _⟩ <;> cases sp
  · simp [Builtin.append_, run_underlying ht, sizeOf, typeInfo, hi, Builtin.lenOf, Builtin.firstCells]
  · simp [Builtin.append_, run_underlying ht, sizeOf, typeInfo, hi, Builtin.lenOf, Builtin.firstCells, loadCells, loadCellsFrom]
  · simp [Builtin.append_, run_underlying ht, sizeOf, typeInfo, hi, Builtin.lenOf, Builtin.firstCells, hnc, storeCells]
  · simp [Builtin.append_, run_underlying ht, sizeOf, typeInfo, hi, Builtin.lenOf, Builtin.firstCells, hnc, storeCells, loadCells, loadCellsFrom]

/-- 'append(s, xs...)' at a step of a region that draws its order. -/
theorem step_spread {P : Program} {w : World} {ops : Array Oper} {o : Oper} {a : Act} {K : Act → World → Prop} {Q : Exit → Act → World → Prop} {E : Prop} (hgd : o.guard = none) (s x : Operand) (t : TypeId)
    (ho : o.op = .call { callee := .builtin .append, args := #[s, x], argTypes := #[t, t] })
    {base : Nat} {e : TypeId} {bytes : Nat} (El : Elem P t e 1 bytes) {v : Value} {n : Nat} {xs : List Value} (hs : a.eval s = v) (hown : w.ownsRow base e 1 v n xs)
    {xv : Value} {news : List Value} (hx : a.eval x = xv) (hv : Vals w xv news) (h1 : ∀ u ∈ news, u.oneCell' = true)
    (hbytes : (n + news.length) * bytes ≤ 140737488355328) (hbase : base ≤ w.heap.size)
    (h : ∀ v' w', w'.ownsRow base e 1 v' (n + news.length) (xs ++ news) → w.grownBy w' v.ownBlock → K (a.put o.dst v') w') :
    if Region.wanted o (yielded ops a.tmps) = true then Oper.wp P o a w K Q else E := by
  obtain ⟨ht, hsz, hb0, i, z, hi, hz, hsize, hby, hzs⟩ := El
  have hn1 : n + news.length ≤ 140737488355328 := Nat.le_trans (Nat.le_mul_of_pos_right _ hb0) hbytes
  obtain ⟨A, cap, rfl, hl1, hl2, h3⟩ := hv
  by_cases hm : 0 < news.length
  · obtain ⟨b, off, rfl, hc⟩ := h3 hm
    refine step_append_lies w hgd s x t ho base e i z 1 bytes ht hi hz hsize hby hzs hsz v n xs hs hown ⟨b, off, none⟩ news.length cap news hx (by simp) (fun j u hu => by rw [add_none]; exact hc j u hu) h1 hm (by simp only [maxLen]; omega) hbytes hbase w.heap.size rfl ?_
    intro g cp w' h2 h4 _ _
    exact h _ w' h2 h4
  · obtain rfl : news = [] := List.eq_nil_of_length_eq_zero (by omega)
    have hw : Region.wanted o (yielded ops a.tmps) = true := by simp [Region.wanted, hgd]
    rw [if_pos hw]
    have hrun := run_append_zero (P := P) (w := w) base t o.type e i 1 ht hi v n xs hown A cap
    unfold Oper.wp execOp
    simp only [List.length_nil] at hx
    simp only [ho, resolve, invoke, builtin, Sem.run_bind, Sem.run_pure, Result.andThen_ok, List.map_toArray, List.map_cons, List.map_nil, hs, hx, hrun]
    exact h v w (by simpa using hown) ⟨rfl, rfl, rfl, Nat.le_refl _, fun _ _ _ => rfl⟩

/-- A region that draws its order, by an invariant. -/
theorem wpAny_inv {P : Program} {md : Region.Mode} {ops : Array Oper} {Q : Exit → Act → World → Prop} (I : Array Bool → Act → World → Prop)
    (hstep : ∀ listed a w i, I listed a w → i ∈ Region.ready md ops listed → wpOp P ops Q i (I (listed.setIfInBounds i true)) a w)
    (hfin : ∀ listed a w, I listed a w → Region.ready md ops listed = [] → Q .normal a w) :
    ∀ (fuel : Nat) (listed : Array Bool) (a : Act) (w : World), listed.toList.count false ≤ fuel → I listed a w → wpAny P md ops Q fuel listed a w
  | 0, listed, a, w, hc, hI => by
    have hr : Region.ready md ops listed = [] := by
      cases hr : Region.ready md ops listed with
      | nil => rfl
      | cons i r =>
        have hm : i ∈ Region.ready md ops listed := by rw [hr]; simp
        have h0 := (mem_ready.1 hm).1
        have hz : listed.toList.count false = 0 := by omega
        rw [List.count_eq_zero] at hz
        exfalso
        apply hz
        have hlt : i < listed.size := by
          rcases Nat.lt_or_ge i listed.size with h | h
          · exact h
          · simp [Array.getD, Nat.not_lt.2 h] at h0
        rw [Array.mem_toList_iff]
        have : listed[i] = false := by simpa [Array.getD, hlt] using h0
        rw [← this]
        exact Array.getElem_mem hlt
    exact ⟨hr, hfin listed a w hI hr⟩
  | fuel + 1, listed, a, w, hc, hI => by
    refine ⟨fun hr => hfin listed a w hI hr, fun i hi => ?_⟩
    refine wpOp_mono (fun a' w' hI' => ?_) (hstep listed a w i hI hi)
    refine wpAny_inv I hstep hfin fuel _ a' w' ?_ hI'
    have h0 := (mem_ready.1 hi).1
    have hlt : i < listed.size := by
      rcases Nat.lt_or_ge i listed.size with h | h
      · exact h
      · simp [Array.getD, Nat.not_lt.2 h] at h0
    have h1 : listed[i] = false := by simpa [Array.getD, hlt] using h0
    have hl : i < listed.toList.length := by simpa using hlt
    have h2 : listed.toList[i] = false := by simpa using h1
    rw [Array.toList_setIfInBounds, List.count_set hl, h2]
    have hpos : 0 < listed.toList.count false := List.count_pos_iff.2 (by rw [← h2]; exact List.getElem_mem hl)
    change listed.toList.count false - 1 + 0 ≤ fuel
    omega
end Go.Proofs.Ytgkhnccedejjnaa
