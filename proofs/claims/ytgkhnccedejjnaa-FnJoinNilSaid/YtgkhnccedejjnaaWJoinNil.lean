/-
  The walk of the law FnJoinNil: it returns true.
  Conditions: none but that the bytes are bytes.
-/
import Derived.Test.YtgkhnccedejjnaaRi
namespace Go.Proofs.Ytgkhnccedejjnaa
open Go.RowKit Go.Lib

theorem pred_listed {md : Region.Mode} {ops : Array Oper} {listed : Array Bool} {i : Nat} (j : Nat) (hi : i ∈ Region.ready md ops listed) (hc : (((ops[i]?).map fun o => o.after.any fun e => Region.binds md e && e.on == j).getD false) = true) : listed.getD j false = true := by
  obtain ⟨_, o, ho, hp⟩ := mem_ready.1 hi
  rw [ho] at hc
  simp only [Option.map_some, Option.getD_some] at hc
  obtain ⟨e, he, hb⟩ := Array.any_eq_true'.1 hc
  simp only [Bool.and_eq_true, beq_iff_eq] at hb
  rw [← hb.2]
  exact hp e he hb.1
theorem not_listed {md : Region.Mode} {ops : Array Oper} {listed : Array Bool} {i : Nat} (hi : i ∈ Region.ready md ops listed) (hl : i < listed.size) : listed.getD i false = false := by
  have h := (mem_ready.1 hi).1
  simp only [Array.getD, hl, dif_pos] at h ⊢
  exact h
theorem strings_one (ts : List ByteArray) : ∀ v ∈ ts.map Value.string, v.oneCell' = true := by
  intro v hv
  obtain ⟨b, _, rfl⟩ := List.mem_map.1 hv
  rfl
theorem bools_one (bs : List Bool) : ∀ v ∈ bs.map Value.bool, v.oneCell' = true := by
  intro v hv
  obtain ⟨b, _, rfl⟩ := List.mem_map.1 hv
  rfl

set_option maxRecDepth 100000 in
set_option maxHeartbeats 2000000 in
theorem wFnJoinNil (w : World) (cv : Value) (cl : List Int) (hv : Vals w cv (cl.map (.int .u8))) (hr : ∀ c ∈ cl, 0 ≤ c ∧ c ≤ 255) :
    Calls Try.prog 6 #[cv] w fun e w' => e = .returned (.bool true) ∧ Below w.heap.size w w' := by
  obtain ⟨A, cap, rfl, hlc, hcm⟩ := hv.form
  simp only [List.length_map] at *
  have HV := Lib.hid hv
  have HR := Lib.hid hr
  clear hv hr
  by_cases hbig : 1048576 < cl.length
  · go_enter Try.func6, Try.ntmps6
    go_wp2_with fail
    refine (large_any _ _ _ _).mono ?_
    rintro e w1 ⟨rfl, rfl⟩
    go_wp2_with fail
    go_ret
    exact ⟨rfl, Below.refl _ _⟩
  · have hd : decide (1048576 < cl.length) = false := by simpa using hbig
    go_enter Try.func6, Try.ntmps6
    go_wp2_with fail
    refine (large_any _ _ _ _).mono ?_
    rintro e w1 ⟨rfl, rfl⟩
    rw [hd]
    clear hd
    go_wp2_with fail
    refine (drawJoinTexts_any w _ cl HV.out HR.out (by omega)).mono ?_
    rintro e w1 ⟨tv, nv, ts, bs, rfl, ht, hn, hl5, hl6, hsz, hb⟩
    have hB1 := hb
    clear hb
    obtain ⟨TA, tcap, rfl, htc, htm⟩ := ht.form
    obtain ⟨NA, ncap, rfl, hnc, hnm⟩ := hn.form
    simp only [List.length_map, maxLen] at *
    have HT := Lib.hid ht
    have HN := Lib.hid hn
    have HZ := Lib.hid hsz
    have hk5 := kept_le ts bs
    have s1 := lines_short (kept ts bs) (kept_short ts bs HZ.out)
    obtain ⟨L, hL⟩ : ∃ L, (⟨(lines (kept ts bs)).toArray⟩ : ByteArray) = L := ⟨_, rfl⟩
    obtain ⟨Z, hZ⟩ : ∃ Z, (!(kept ts bs).isEmpty) = Z := ⟨_, rfl⟩
    have hZL : (kept ts bs).length = 0 ∧ Z = false ∨ 0 < (kept ts bs).length ∧ Z = true := by
      rw [← hZ]
      cases kept ts bs with
      | nil => exact .inl ⟨rfl, rfl⟩
      | cons a r => exact .inr ⟨by simp, rfl⟩
    have S1 := Lib.hid (And.intro hk5 (And.intro s1 (And.intro hL (And.intro hZ hZL))))
    clear ht hn hsz s1 hk5 hL hZ hZL
    have hD1 : Below w1.heap.size w1 w1 := Below.refl _ _
    go_wp2_with fail
    refine (joinTexts_any _ _ ts bs _ HT.out HN.out (by omega) (by have := S1.out.1; have := S1.out.2.1; omega)).mono ?_
    rintro e w2 ⟨rfl, hb⟩
    have hB2 := below_after hB1 hb
    have hD2 := below_after hD1 hb
    rw [S1.out.2.2.1, S1.out.2.2.2.1]
    clear hb
    go_wp2_with fail
    refine (kept_any _ _ ts bs _ (Vals.keep HT.out hD2) (Vals.keep HN.out hD2) (by omega)).mono ?_
    rintro e w3 ⟨kv, rfl, hown, hb⟩
    have hB3 := below_after hB2 hb
    have hD3 := below_after hD2 hb
    clear hb
    have hkv := Vals.of_own hown
    obtain ⟨KA, kcap, rfl, hkc, hkm⟩ := hkv.form
    simp only [List.length_map, maxLen] at *
    have HK := Lib.hid hkv
    clear hown hkv
    have hE3 : Below w3.heap.size w3 w3 := Below.refl _ _
    go_wp2_with fail
    refine (joinTextsNil_any _ (kept ts bs) _ HK.out (by have := S1.out.1; omega) (by have := S1.out.1; have := S1.out.2.1; omega)).mono ?_
    rintro e w4 ⟨rfl, hb⟩
    have hB4 := below_after hB3 hb
    have hD4 := below_after hD3 hb
    have hE4 := below_after hE3 hb
    rw [S1.out.2.2.1, S1.out.2.2.2.1]
    clear hb
    go_wp2_with fail
    have H4 := Lib.hid (And.intro hD4 hB4)
    obtain ⟨CM, hCM, hmk0⟩ := elemBools.make0 (ts.length + 1) (by omega) (by omega)
    have hmk : ∀ W : World, (Instr.makeSlice 26 (.int .i64 0) (.int .i64 ((ts.length : Int) + 1))).run Try.prog W = .ok (.slice (some ⟨W.heap.size, 0, none⟩) 0 (ts.length + 1)) (W.alloc (.cells CM 4)) := fun W => by
      have := hmk0 W
      simpa using this
    have HMK := Lib.hid (And.intro hmk hCM)
    clear hmk hmk0 hCM hD4 hB4 hE4 hD3 hD2 hD1 hE3 hB1 hB2 hB3
    refine wp_region_any (by kernel_rfl) ?_
    refine wpAny_inv (fun listed a wr => ∃ (f : Nat → Bool) (u : Nat → Value), (∀ j, listed.getD j false = f j) ∧ listed.size = 22 ∧ a = { tmps := ((Value.slice A cl.length cap) :: (undef) :: (Value.bool false) :: (Value.slice TA ts.length tcap) :: (Value.slice NA bs.length ncap) :: (Value.string L) :: (Value.bool Z) :: (Value.slice KA (kept ts bs).length kcap) :: (Value.string L) :: (Value.bool Z) :: (u 10) :: (u 11) :: (Value.slice A cl.length cap) :: (Value.bool false) :: (Value.tuple #[.slice TA ts.length tcap, .slice NA bs.length ncap]) :: (Value.slice A cl.length cap) :: (Value.tuple #[.slice TA ts.length tcap, .slice NA bs.length ncap]) :: (Value.slice TA ts.length tcap) :: (Value.slice NA bs.length ncap) :: (Value.tuple #[.string L, .bool Z]) :: (Value.slice TA ts.length tcap) :: (Value.slice NA bs.length ncap) :: (Value.tuple #[.string L, .bool Z]) :: (Value.string L) :: (Value.bool Z) :: (Value.slice TA ts.length tcap) :: (Value.slice NA bs.length ncap) :: (Value.slice KA (kept ts bs).length kcap) :: (Value.tuple #[.string L, .bool Z]) :: (Value.slice KA (kept ts bs).length kcap) :: (Value.tuple #[.string L, .bool Z]) :: (Value.string L) :: (Value.bool Z) :: (u 33) :: (u 34) :: (u 35) :: (u 36) :: (u 37) :: (u 38) :: (u 39) :: (u 40) :: (u 41) :: (u 42) :: (u 43) :: (u 44) :: (u 45) :: (u 46) :: (u 47) :: (u 48) :: (u 49) :: (u 50) :: (u 51) :: (u 52) :: (undef) :: (undef) :: (undef) :: (undef) :: (undef) :: (undef) :: (undef) :: (undef) :: (undef) :: (undef) :: (undef) :: (undef) :: (undef) :: (undef) :: (undef) :: (undef) :: (undef) :: (undef) :: (undef) :: (undef) :: (undef) :: (undef) :: (undef) :: (undef) :: (undef) :: ([] : List Value)).toArray, defers := [] } ∧ RI w4 ts (padB bs ts.length) (.slice TA ts.length tcap) (.slice NA bs.length ncap) ⟨#[109, 111, 114, 101]⟩ L Z f u wr) ?_ ?_ _ _ _ _ (by decide) ⟨fun _ => false, fun _ => undef, fun j => by simp [Array.getD], by simp, rfl, RI.start _ _ ((Below.refl _ _).drew)⟩
    · intro listed a wr i hI hi
      obtain ⟨f, u, hf, hsz, rfl, h⟩ := hI
      have hlt : i < 22 := List.mem_range.1 (List.mem_filter.1 hi).1
      have HF := Lib.hid hf
      have hbr := h.bel.size
      have H := Lib.hid h
      have hq0 : f i = false := by rw [← hf]; exact not_listed hi (by rw [hsz]; exact hlt)
      have HQ := Lib.hid hq0
      clear hq0
      rcases (by omega : i = 0 ∨ i = 1 ∨ i = 2 ∨ i = 3 ∨ i = 4 ∨ i = 5 ∨ i = 6 ∨ i = 7 ∨ i = 8 ∨ i = 9 ∨ i = 10 ∨ i = 11 ∨ i = 12 ∨ i = 13 ∨ i = 14 ∨ i = 15 ∨ i = 16 ∨ i = 17 ∨ i = 18 ∨ i = 19 ∨ i = 20 ∨ i = 21) with rfl | rfl | rfl | rfl | rfl | rfl | rfl | rfl | rfl | rfl | rfl | rfl | rfl | rfl | rfl | rfl | rfl | rfl | rfl | rfl | rfl | rfl
      · have HI := Lib.hid hi
        clear hf h hi hlt
        refine wpOp_step (o := _) rfl ?_
        intro K' hK'
        have HK' := Lib.hid hK'
        clear hK'
        go_simp
        exact HK'.out _ _ ⟨put1 f 0 true, put1 u 34 (.slice (some ⟨wr.heap.size, 0, none⟩) 0 0), set_get 0 (by rw [hsz]; decide) HF.out, by rw [Array.size_setIfInBounds]; exact hsz, rfl, H.out.op0⟩
      · have HI := Lib.hid hi
        clear hf h hi hlt
        refine wpOp_step (o := _) rfl ?_
        intro K' hK'
        have HK' := Lib.hid hK'
        clear hK'
        go_simp
        exact HK'.out _ _ ⟨put1 f 1 true, put1 u 35 (.slice TA ts.length tcap), set_get 1 (by rw [hsz]; decide) HF.out, by rw [Array.size_setIfInBounds]; exact hsz, rfl, H.out.op1⟩
      · have HI := Lib.hid hi
        have p0 : f 0 = true := by rw [← hf]; exact pred_listed 0 HI.out (by kernel_rfl)
        have p1 : f 1 = true := by rw [← hf]; exact pred_listed 1 HI.out (by kernel_rfl)
        have HPP := Lib.hid (And.intro p0 (And.intro p1 trivial))
        clear p0 p1
        clear hf h hi hlt
        refine wpOp_step (o := _) rfl ?_
        intro K' hK'
        have HK' := Lib.hid hK'
        clear hK'
        refine step_spread rfl (.tmp 34) (.tmp 35) _ rfl elemStr rfl (H.out.s0 HPP.out.1 HQ.out) (show _ = (.slice TA ts.length tcap : Value) from H.out.m1 HPP.out.2.1) (Vals.keep HT.out (below_after H4.out.1 H.out.bel)) (strings_one ts) (by simp; omega) hbr ?_
        intro v' w' ho hg
        rw [List.length_map, Nat.zero_add, List.nil_append] at ho
        exact HK'.out _ _ ⟨put1 f 2 true, put1 u 36 v', set_get 2 (by rw [hsz]; decide) HF.out, by rw [Array.size_setIfInBounds]; exact hsz, rfl, H.out.op2 HPP.out.1 HQ.out (H.out.s0 HPP.out.1 HQ.out) ho hg⟩
      · have HI := Lib.hid hi
        clear hf h hi hlt
        refine wpOp_step (o := _) rfl ?_
        intro K' hK'
        have HK' := Lib.hid hK'
        clear hK'
        go_simp
        exact HK'.out _ _ ⟨put1 f 3 true, put1 u 37 (.slice (some ⟨wr.heap.size, 0, none⟩) 1 1), set_get 3 (by rw [hsz]; decide) HF.out, by rw [Array.size_setIfInBounds]; exact hsz, rfl, H.out.op3⟩
      · have HI := Lib.hid hi
        have p2 : f 2 = true := by rw [← hf]; exact pred_listed 2 HI.out (by kernel_rfl)
        have p3 : f 3 = true := by rw [← hf]; exact pred_listed 3 HI.out (by kernel_rfl)
        have HPP := Lib.hid (And.intro p2 (And.intro p3 trivial))
        clear p2 p3
        clear hf h hi hlt
        refine wpOp_step (o := _) rfl ?_
        intro K' hK'
        have HK' := Lib.hid hK'
        clear hK'
        refine step_spread rfl (.tmp 36) (.tmp 37) _ rfl elemStr rfl (H.out.s2 HPP.out.1 HQ.out) rfl (Vals.of_own (H.out.s3 HPP.out.2.1 HQ.out)) (by intro v hv; rw [List.mem_singleton] at hv; subst hv; rfl) (by simp; omega) hbr ?_
        intro v' w' ho hg
        rw [List.length_singleton] at ho
        exact HK'.out _ _ ⟨put1 f 4 true, put1 u 38 v', set_get 4 (by rw [hsz]; decide) HF.out, by rw [Array.size_setIfInBounds]; exact hsz, rfl, H.out.op4 HPP.out.1 (H.out.s2 HPP.out.1 HQ.out) ho hg⟩
      · have HI := Lib.hid hi
        clear hf h hi hlt
        refine wpOp_step (o := _) rfl ?_
        intro K' hK'
        have HK' := Lib.hid hK'
        clear hK'
        go_simp
        exact HK'.out _ _ ⟨put1 f 5 true, put1 u 39 (.slice TA ts.length tcap), set_get 5 (by rw [hsz]; decide) HF.out, by rw [Array.size_setIfInBounds]; exact hsz, rfl, H.out.op5⟩
      · have HI := Lib.hid hi
        have p5 : f 5 = true := by rw [← hf]; exact pred_listed 5 HI.out (by kernel_rfl)
        have HPP := Lib.hid (And.intro p5 trivial)
        clear p5
        clear hf h hi hlt
        refine wpOp_step (o := _) rfl ?_
        intro K' hK'
        have HK' := Lib.hid hK'
        clear hK'
        have hu : u 39 = .slice TA ts.length tcap := H.out.m5 HPP.out.1
        go_simp
        exact HK'.out _ _ ⟨put1 f 6 true, put1 (put1 u 39 (.slice TA ts.length tcap)) 40 (.int .i64 (ts.length : Int)), set_get 6 (by rw [hsz]; decide) HF.out, by rw [Array.size_setIfInBounds]; exact hsz, rfl, (H.out.same 39 hu).op6⟩
      · have HI := Lib.hid hi
        have p6 : f 6 = true := by rw [← hf]; exact pred_listed 6 HI.out (by kernel_rfl)
        have HPP := Lib.hid (And.intro p6 trivial)
        clear p6
        clear hf h hi hlt
        refine wpOp_step (o := _) rfl ?_
        intro K' hK'
        have HK' := Lib.hid hK'
        clear hK'
        have hu : u 40 = .int .i64 (ts.length : Int) := H.out.m6 HPP.out.1
        have hwr : IntKind.i64.wrap ((ts.length : Int) + 1) = (ts.length : Int) + 1 := by rw [IntKind.wrap_i64]; omega
        have HWR := Lib.hid hwr
        clear hwr
        go_simp
        rw [HWR.out]
        exact HK'.out _ _ ⟨put1 f 7 true, put1 (put1 u 40 (.int .i64 (ts.length : Int))) 41 (.int .i64 ((ts.length : Int) + 1)), set_get 7 (by rw [hsz]; decide) HF.out, by rw [Array.size_setIfInBounds]; exact hsz, rfl, (H.out.same 40 hu).op7⟩
      · have HI := Lib.hid hi
        have p7 : f 7 = true := by rw [← hf]; exact pred_listed 7 HI.out (by kernel_rfl)
        have HPP := Lib.hid (And.intro p7 trivial)
        clear p7
        clear hf h hi hlt
        refine wpOp_step (o := _) rfl ?_
        intro K' hK'
        have HK' := Lib.hid hK'
        clear hK'
        have hu : u 41 = .int .i64 ((ts.length : Int) + 1) := H.out.m7 HPP.out.1
        have hmk := HMK.out.1
        go_simp
        exact HK'.out _ _ ⟨put1 f 8 true, put1 (put1 u 41 (.int .i64 ((ts.length : Int) + 1))) 42 (.slice (some ⟨wr.heap.size, 0, none⟩) 0 (ts.length + 1)), set_get 8 (by rw [hsz]; decide) HF.out, by rw [Array.size_setIfInBounds]; exact hsz, rfl, (H.out.same 41 hu).op8 HMK.out.2 hl5⟩
      · have HI := Lib.hid hi
        clear hf h hi hlt
        refine wpOp_step (o := _) rfl ?_
        intro K' hK'
        have HK' := Lib.hid hK'
        clear hK'
        go_simp
        exact HK'.out _ _ ⟨put1 f 9 true, put1 u 43 (.slice NA bs.length ncap), set_get 9 (by rw [hsz]; decide) HF.out, by rw [Array.size_setIfInBounds]; exact hsz, rfl, H.out.op9⟩
      · have HI := Lib.hid hi
        clear hf h hi hlt
        refine wpOp_step (o := _) rfl ?_
        intro K' hK'
        have HK' := Lib.hid hK'
        clear hK'
        go_simp
        exact HK'.out _ _ ⟨put1 f 10 true, put1 u 44 (.slice TA ts.length tcap), set_get 10 (by rw [hsz]; decide) HF.out, by rw [Array.size_setIfInBounds]; exact hsz, rfl, H.out.op10⟩
      · have HI := Lib.hid hi
        have p10 : f 10 = true := by rw [← hf]; exact pred_listed 10 HI.out (by kernel_rfl)
        have HPP := Lib.hid (And.intro p10 trivial)
        clear p10
        clear hf h hi hlt
        refine wpOp_step (o := _) rfl ?_
        intro K' hK'
        have HK' := Lib.hid hK'
        clear hK'
        have hu : u 44 = .slice TA ts.length tcap := H.out.m10 HPP.out.1
        go_simp
        exact HK'.out _ _ ⟨put1 f 11 true, put1 (put1 u 44 (.slice TA ts.length tcap)) 45 (.int .i64 (ts.length : Int)), set_get 11 (by rw [hsz]; decide) HF.out, by rw [Array.size_setIfInBounds]; exact hsz, rfl, (H.out.same 44 hu).op11⟩
      · have HI := Lib.hid hi
        have p9 : f 9 = true := by rw [← hf]; exact pred_listed 9 HI.out (by kernel_rfl)
        have p11 : f 11 = true := by rw [← hf]; exact pred_listed 11 HI.out (by kernel_rfl)
        have HPP := Lib.hid (And.intro p9 (And.intro p11 trivial))
        clear p9 p11
        clear hf h hi hlt
        refine wpOp_step (o := _) rfl ?_
        intro K' hK'
        have HK' := Lib.hid hK'
        clear hK'
        have hc : Calls Try.prog 15 #[u 43, u 45] wr fun e w' => e = .returned (.slice (some ⟨wr.heap.size, 0, none⟩) ts.length ts.length) ∧ w'.ownsRow wr.heap.size 4 1 (.slice (some ⟨wr.heap.size, 0, none⟩) ts.length ts.length) ts.length ((padB bs ts.length).map .bool) ∧ Below wr.heap.size wr w' := by
          rw [H.out.m9 HPP.out.1, H.out.m11 HPP.out.2.1]
          exact padded_any _ bs ts.length wr (Vals.keep HN.out (below_after H4.out.1 H.out.bel)) (by omega)
        have HC := Lib.hid hc
        clear hc
        go_simp
        go_at_call 15
        refine HC.out.mono ?_
        rintro e w' ⟨rfl, ho, hb⟩
        exact HK'.out _ _ ⟨put1 f 12 true, put1 u 46 (.slice (some ⟨wr.heap.size, 0, none⟩) ts.length ts.length), set_get 12 (by rw [hsz]; decide) HF.out, by rw [Array.size_setIfInBounds]; exact hsz, rfl, H.out.op12 hb ho⟩
      · have HI := Lib.hid hi
        have p8 : f 8 = true := by rw [← hf]; exact pred_listed 8 HI.out (by kernel_rfl)
        have p12 : f 12 = true := by rw [← hf]; exact pred_listed 12 HI.out (by kernel_rfl)
        have HPP := Lib.hid (And.intro p8 (And.intro p12 trivial))
        clear p8 p12
        clear hf h hi hlt
        refine wpOp_step (o := _) rfl ?_
        intro K' hK'
        have HK' := Lib.hid hK'
        clear hK'
        refine step_spread rfl (.tmp 42) (.tmp 46) _ rfl elemBools rfl (H.out.b8 HPP.out.1 HQ.out) rfl (Vals.of_own (H.out.b12 HPP.out.2.1 HQ.out)) (bools_one _) (by simp [padB_length]; omega) hbr ?_
        intro v' w' ho hg
        rw [List.length_map, padB_length, Nat.zero_add, List.nil_append] at ho
        exact HK'.out _ _ ⟨put1 f 13 true, put1 u 47 v', set_get 13 (by rw [hsz]; decide) HF.out, by rw [Array.size_setIfInBounds]; exact hsz, rfl, H.out.op13 HPP.out.1 HQ.out (H.out.b8 HPP.out.1 HQ.out) ho hg⟩
      · have HI := Lib.hid hi
        clear hf h hi hlt
        refine wpOp_step (o := _) rfl ?_
        intro K' hK'
        have HK' := Lib.hid hK'
        clear hK'
        go_simp
        exact HK'.out _ _ ⟨put1 f 14 true, put1 u 48 (.slice (some ⟨wr.heap.size, 0, none⟩) 1 1), set_get 14 (by rw [hsz]; decide) HF.out, by rw [Array.size_setIfInBounds]; exact hsz, rfl, H.out.op14⟩
      · have HI := Lib.hid hi
        have p13 : f 13 = true := by rw [← hf]; exact pred_listed 13 HI.out (by kernel_rfl)
        have p14 : f 14 = true := by rw [← hf]; exact pred_listed 14 HI.out (by kernel_rfl)
        have HPP := Lib.hid (And.intro p13 (And.intro p14 trivial))
        clear p13 p14
        clear hf h hi hlt
        refine wpOp_step (o := _) rfl ?_
        intro K' hK'
        have HK' := Lib.hid hK'
        clear hK'
        refine step_spread rfl (.tmp 47) (.tmp 48) _ rfl elemBools rfl (H.out.b13 HPP.out.1 HQ.out) rfl (Vals.of_own (H.out.b14 HPP.out.2.1 HQ.out)) (by intro v hv; rw [List.mem_singleton] at hv; subst hv; rfl) (by simp; omega) hbr ?_
        intro v' w' ho hg
        rw [List.length_singleton] at ho
        exact HK'.out _ _ ⟨put1 f 15 true, put1 u 49 v', set_get 15 (by rw [hsz]; decide) HF.out, by rw [Array.size_setIfInBounds]; exact hsz, rfl, H.out.op15 HPP.out.1 (H.out.b13 HPP.out.1 HQ.out) ho hg⟩
      · have HI := Lib.hid hi
        have p4 : f 4 = true := by rw [← hf]; exact pred_listed 4 HI.out (by kernel_rfl)
        have p15 : f 15 = true := by rw [← hf]; exact pred_listed 15 HI.out (by kernel_rfl)
        have HPP := Lib.hid (And.intro p4 (And.intro p15 trivial))
        clear p4 p15
        clear hf h hi hlt
        refine wpOp_step (o := _) rfl ?_
        intro K' hK'
        have HK' := Lib.hid hK'
        clear hK'
        have hc : Calls Try.prog 10 #[u 38, u 49] wr fun e w' => e = .returned (.tuple #[.string L, .bool Z]) ∧ Below wr.heap.size wr w' := by
          have hj := joinTexts_any (u 38) (u 49) (ts ++ [⟨#[109, 111, 114, 101]⟩]) (padB bs ts.length ++ [true]) wr (by unfold Strs; rw [List.map_append]; exact Vals.of_own (H.out.s4 HPP.out.1)) (by unfold Bools; rw [List.map_append]; exact Vals.of_own (H.out.b15 HPP.out.2.1)) (by simp; omega) (by rw [kept_more]; have := S1.out.1; have := S1.out.2.1; omega)
          rw [kept_more, S1.out.2.2.1, S1.out.2.2.2.1] at hj
          exact hj
        have HC := Lib.hid hc
        clear hc
        go_simp
        go_at_call 10
        refine HC.out.mono ?_
        rintro e w' ⟨rfl, hb⟩
        exact HK'.out _ _ ⟨put1 f 16 true, put1 u 50 (.tuple #[.string L, .bool Z]), set_get 16 (by rw [hsz]; decide) HF.out, by rw [Array.size_setIfInBounds]; exact hsz, rfl, H.out.op16 hb⟩
      · have HI := Lib.hid hi
        have p16 : f 16 = true := by rw [← hf]; exact pred_listed 16 HI.out (by kernel_rfl)
        have HPP := Lib.hid (And.intro p16 trivial)
        clear p16
        clear hf h hi hlt
        refine wpOp_step (o := _) rfl ?_
        intro K' hK'
        have HK' := Lib.hid hK'
        clear hK'
        go_simp
        exact HK'.out _ _ ⟨put1 f 17 true, put1 u 33 (u 50), set_get 17 (by rw [hsz]; decide) HF.out, by rw [Array.size_setIfInBounds]; exact hsz, rfl, H.out.op17 HPP.out.1⟩
      · have HI := Lib.hid hi
        have p17 : f 17 = true := by rw [← hf]; exact pred_listed 17 HI.out (by kernel_rfl)
        have HPP := Lib.hid (And.intro p17 trivial)
        clear p17
        clear hf h hi hlt
        refine wpOp_step (o := _) rfl ?_
        intro K' hK'
        have HK' := Lib.hid hK'
        clear hK'
        have hu : u 33 = .tuple #[.string L, .bool Z] := H.out.j17 HPP.out.1
        go_simp
        exact HK'.out _ _ ⟨put1 f 18 true, put1 (put1 u 33 (.tuple #[.string L, .bool Z])) 51 (.string L), set_get 18 (by rw [hsz]; decide) HF.out, by rw [Array.size_setIfInBounds]; exact hsz, rfl, (H.out.same 33 hu).op18⟩
      · have HI := Lib.hid hi
        have p17 : f 17 = true := by rw [← hf]; exact pred_listed 17 HI.out (by kernel_rfl)
        have HPP := Lib.hid (And.intro p17 trivial)
        clear p17
        clear hf h hi hlt
        refine wpOp_step (o := _) rfl ?_
        intro K' hK'
        have HK' := Lib.hid hK'
        clear hK'
        have hu : u 33 = .tuple #[.string L, .bool Z] := H.out.j17 HPP.out.1
        go_simp
        exact HK'.out _ _ ⟨put1 f 19 true, put1 (put1 u 33 (.tuple #[.string L, .bool Z])) 52 (.bool Z), set_get 19 (by rw [hsz]; decide) HF.out, by rw [Array.size_setIfInBounds]; exact hsz, rfl, (H.out.same 33 hu).op19⟩
      · have HI := Lib.hid hi
        have p18 : f 18 = true := by rw [← hf]; exact pred_listed 18 HI.out (by kernel_rfl)
        have HPP := Lib.hid (And.intro p18 trivial)
        clear p18
        clear hf h hi hlt
        refine wpOp_step (o := _) rfl ?_
        intro K' hK'
        have HK' := Lib.hid hK'
        clear hK'
        go_simp
        exact HK'.out _ _ ⟨put1 f 20 true, put1 u 10 (u 51), set_get 20 (by rw [hsz]; decide) HF.out, by rw [Array.size_setIfInBounds]; exact hsz, rfl, H.out.op20 HPP.out.1⟩
      · have HI := Lib.hid hi
        have p19 : f 19 = true := by rw [← hf]; exact pred_listed 19 HI.out (by kernel_rfl)
        have HPP := Lib.hid (And.intro p19 trivial)
        clear p19
        clear hf h hi hlt
        refine wpOp_step (o := _) rfl ?_
        intro K' hK'
        have HK' := Lib.hid hK'
        clear hK'
        go_simp
        exact HK'.out _ _ ⟨put1 f 21 true, put1 u 11 (u 52), set_get 21 (by rw [hsz]; decide) HF.out, by rw [Array.size_setIfInBounds]; exact hsz, rfl, H.out.op21 HPP.out.1⟩
    · intro listed a wr hI hr
      obtain ⟨f, u, hf, hsz, rfl, h⟩ := hI
      have hall := all_listed hr hsz (by kernel_rfl) 21
      have e20 : u 10 = .string L := h.j20 (by rw [← hf]; exact hall 20 (by omega) (by decide))
      have e21 : u 11 = .bool Z := h.j21 (by rw [← hf]; exact hall 21 (by omega) (by decide))
      have HB := Lib.hid (below_after H4.out.2 h.bel)
      have hZL := S1.out.2.2.2.2
      clear hall hf h hr hsz S1 HMK
      simp only [Exit.then]
      rcases hZL with ⟨hk0, rfl⟩ | ⟨hk0, rfl⟩
      · go_wp2_with fail
        go_ret
        exact ⟨rfl, HB.out⟩
      · go_wp2_with fail
        go_ret
        exact ⟨rfl, HB.out⟩

end Go.Proofs.Ytgkhnccedejjnaa
