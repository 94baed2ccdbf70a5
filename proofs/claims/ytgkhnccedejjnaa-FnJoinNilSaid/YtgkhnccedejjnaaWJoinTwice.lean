/-
  The walk of the law FnJoinTwice: it returns true.
  Conditions: none but that the bytes are bytes.
-/
import Derived.Test.YtgkhnccedejjnaaDrawTexts
import Derived.Test.YtgkhnccedejjnaaLarge
namespace Go.Proofs.Ytgkhnccedejjnaa
open Go.RowKit Go.Lib

theorem kept_nil : ∀ ts : List ByteArray, kept ts [] = ts
  | [] => rfl
  | t :: r => by simp [kept, kept_nil r]
theorem lines_short : ∀ ts : List ByteArray, (∀ s ∈ ts, s.size ≤ 3) → (lines ts).length ≤ 4 * ts.length := by
  have tail : ∀ ts : List ByteArray, (∀ s ∈ ts, s.size ≤ 3) → (tailLines ts).length ≤ 4 * ts.length := by
    intro ts
    induction ts with
    | nil => intro _; simp [tailLines]
    | cons t r ih =>
      intro h
      have h1 := h t (by simp)
      have h2 := ih (fun s hs => h s (by simp [hs]))
      simp only [tailLines] at h2
      simp only [tailLines, List.flatMap_cons, List.length_append, List.length_cons, Array.length_toList]
      have : t.data.size = t.size := rfl
      omega
  intro ts h
  cases ts with
  | nil => simp [lines]
  | cons t r =>
    have h1 := h t (by simp)
    have h2 := tail r (fun s hs => h s (by simp [hs]))
    simp only [lines, List.length_append, List.length_cons, Array.length_toList]
    have : t.data.size = t.size := rfl
    omega
theorem lines_append (a b : List ByteArray) (ha : a ≠ []) (hb : b ≠ []) : lines (a ++ b) = lines a ++ 10 :: lines b := by
  cases a with
  | nil => exact absurd rfl ha
  | cons x a =>
    cases b with
    | nil => exact absurd rfl hb
    | cons y b => simp [lines, tailLines]
theorem lines_two (a b : List ByteArray) : lines (kept [⟨(lines a).toArray⟩, ⟨(lines b).toArray⟩] [!(!a.isEmpty), !(!b.isEmpty)]) = lines (a ++ b) := by
  cases a with
  | nil =>
    cases b with
    | nil => rfl
    | cons y b => simp [kept, lines, tailLines]
  | cons x a =>
    cases b with
    | nil => simp [kept, lines, tailLines]
    | cons y b =>
      rw [lines_append _ _ (by simp) (by simp)]
      simp [kept, lines, tailLines]
theorem kept_two (a b : List ByteArray) : (kept [⟨(lines a).toArray⟩, ⟨(lines b).toArray⟩] [!(!a.isEmpty), !(!b.isEmpty)]).isEmpty = (a ++ b).isEmpty := by
  cases a <;> cases b <;> simp [kept]

theorem joinTextsNil_any (tv : Value) (ts : List ByteArray) (w : World) (ht : Strs w tv ts) (hr : ts.length ≤ 68719476736) (hsz : (lines ts).length ≤ 1099511627776) :
    Calls Try.prog 10 #[tv, .slice none 0 0] w fun e w' => e = .returned (.tuple #[.string ⟨(lines ts).toArray⟩, .bool (!ts.isEmpty)]) ∧ Below w.heap.size w w' := by
  have := joinTexts_any tv (.slice none 0 0) ts [] w ht (Vals.nil w) hr (by rw [kept_nil]; exact hsz)
  rw [kept_nil] at this
  exact this

set_option maxHeartbeats 2000000 in
theorem wJoinTwice (w : World) (cv : Value) (cl : List Int) (hv : Vals w cv (cl.map (.int .u8))) (hr : ∀ c ∈ cl, 0 ≤ c ∧ c ≤ 255) :
    Calls Try.prog 7 #[cv] w fun e w' => e = .returned (.bool true) ∧ Below w.heap.size w w' := by
  obtain ⟨A, cap, rfl, _, _⟩ := hv.form
  simp only [List.length_map] at *
  have HV := Lib.hid hv
  have HR := Lib.hid hr
  clear hv hr
  by_cases hbig : 1048576 < cl.length
  · go_enter Try.func7, Try.ntmps7
    go_wp2_with fail
    refine (large_any _ _ _ _).mono ?_
    rintro e w1 ⟨rfl, rfl⟩
    go_wp2_with fail
    go_ret
    exact ⟨rfl, Below.refl _ _⟩
  · have hd : decide (1048576 < cl.length) = false := by simpa using hbig
    go_enter Try.func7, Try.ntmps7
    go_wp2_with fail
    refine (large_any _ _ _ _).mono ?_
    rintro e w1 ⟨rfl, rfl⟩
    rw [hd]
    clear hd
    go_wp2_with fail
    refine (drawJoinTexts_any w _ cl HV.out HR.out (by omega)).mono ?_
    rintro e w1 ⟨tv, nv, ts, bs, rfl, ht, hn, hl5, _, hsz, hb1⟩
    obtain ⟨TA, tcap, rfl, htc, htm⟩ := ht.form
    obtain ⟨NA, ncap, rfl, _, _⟩ := hn.form
    simp only [List.length_map, maxLen] at *
    have HT := Lib.hid ht
    have HZ := Lib.hid hsz
    clear ht hn hsz
    have q1 : (0 : Int) ≤ (ts.length : Int) / 2 := by omega
    have q2 : (ts.length : Int) / 2 ≤ (tcap : Int) := by omega
    go_wp2_with fail
    have v1 : Strs w1 (.slice TA (ts.length / 2) tcap) (ts.take (ts.length / 2)) := by unfold Strs; rw [List.map_take]; exact Vals.take HT.out _ (by omega)
    have s1 := lines_short (ts.take (ts.length / 2)) (fun s hs => HZ.out s (List.mem_of_mem_take hs))
    have s2 := lines_short (ts.drop (ts.length / 2)) (fun s hs => HZ.out s (List.mem_of_mem_drop hs))
    have s3 := lines_short ts HZ.out
    have l1 : (ts.take (ts.length / 2)).length ≤ 5 := by simp; omega
    have l2 : (ts.drop (ts.length / 2)).length ≤ 5 := by simp; omega
    refine (joinTextsNil_any _ _ _ v1 (by omega) (by omega)).mono ?_
    rintro e w2 ⟨rfl, hb2⟩
    have hb2' := hb1.trans (hb2.mono hb1.size)
    have v2 : Strs w2 (.slice (if tcap = ts.length / 2 then TA else TA.map (·.add (ts.length / 2))) (ts.length - ts.length / 2) (tcap - ts.length / 2)) (ts.drop (ts.length / 2)) := by unfold Strs; rw [List.map_drop]; exact Vals.drop (Vals.keep HT.out hb2) _ (by omega)
    have S := Lib.hid (And.intro s1 (And.intro s2 (And.intro s3 (And.intro l1 l2))))
    have E1 := Lib.hid (List.take_append_drop (ts.length / 2) ts)
    clear v1 s1 s2 s3 l1 l2
    have fin : ∀ A2 : Option Addr, Strs w2 (.slice A2 (ts.length - ts.length / 2) (tcap - ts.length / 2)) (ts.drop (ts.length / 2)) → True := fun _ _ => trivial
    by_cases hcap : tcap = ts.length / 2
    · have hl0 : ts.length = 0 := by omega
      obtain rfl : ts = [] := List.eq_nil_of_length_eq_zero hl0
      obtain rfl : tcap = 0 := by simpa using hcap
      clear fin hl0 hcap
      simp only [List.length_nil, Nat.zero_div, List.take_nil, List.drop_nil, Nat.sub_zero, if_true] at *
      have V2 := Lib.hid v2
      clear v2
      go_wp2_with fail
      refine (joinTextsNil_any _ _ _ V2.out (by simp) (by simp [lines])).mono ?_
      rintro e w3 ⟨rfl, hb3⟩
      have hb3' := hb2'.trans (hb3.mono hb2'.size)
      generalize (⟨(lines []).toArray⟩ : ByteArray) = x0 at *
      go_wp2_with fail
      refine (joinTexts_any _ _ [x0, x0] [true, true] _ ?_ ?_ (by simp) (by simp [kept, lines])).mono ?_
      · exact (Vals.lit w3 _ _ 2 rfl (by omega)).keep ((Below.refl _ _).alloc (Nat.le_refl _) _)
      · have := Vals.lit (w3.alloc (.cells #[.string x0, .string x0] 9)) #[.bool true, .bool true] 4 2 rfl (by omega)
        unfold Bools; simpa using this
      rintro e w4 ⟨rfl, hb4⟩
      have hb4' := (((hb3'.alloc hb3'.size _).alloc (by simp; have := hb3'.size; omega) _)).trans (hb4.mono (by simp; have := hb3'.size; omega))
      have HT4 := Lib.hid (Vals.keep HT.out ((hb2.trans (hb3.mono hb2.size)).trans ((((Below.refl _ _).alloc (Nat.le_refl _) (.cells #[.string x0, .string x0] 9)).alloc (by simp) (.cells #[.bool true, .bool true] 4)).mono (Nat.le_trans hb2.size hb3.size) |>.trans (hb4.mono (by simp; have := hb2.size; have := hb3.size; omega)))))
      clear hb4
      simp only [kept, lines, if_true, List.isEmpty_nil, Bool.not_true]
      go_wp2_with fail
      refine (joinTextsNil_any _ [] _ HT4.out (by simp) (by simp [lines])).mono ?_
      rintro e w5 ⟨rfl, hb5⟩
      simp only [lines, List.isEmpty_nil, Bool.not_true]
      go_wp2_with fail
      go_ret
      exact ⟨rfl, hb4'.trans (hb5.mono hb4'.size)⟩
    · rw [if_neg hcap] at v2
      have V2 := Lib.hid v2
      clear v2 fin
      go_wp2_with fail
      refine (joinTextsNil_any _ _ _ V2.out (by have := S.out.2.2.2.2; omega) (by have := S.out.2.1; have := S.out.2.2.2.2; omega)).mono ?_
      rintro e w3 ⟨rfl, hb3⟩
      have hb3' := hb2'.trans (hb3.mono hb2'.size)
      have L2 := Lib.hid (And.intro (lines_two (ts.take (ts.length / 2)) (ts.drop (ts.length / 2))) (kept_two (ts.take (ts.length / 2)) (ts.drop (ts.length / 2))))
      have hE := E1.out
      generalize ts.take (ts.length / 2) = t1 at *
      generalize ts.drop (ts.length / 2) = t2 at *
      have HE := Lib.hid hE
      clear hE E1
      generalize hx1 : (⟨(lines t1).toArray⟩ : ByteArray) = x1 at *
      generalize hx2 : (⟨(lines t2).toArray⟩ : ByteArray) = x2 at *
      generalize hb1e : t1.isEmpty = b1 at *
      generalize hb2e : t2.isEmpty = b2 at *
      have HX := Lib.hid (And.intro hx1 (And.intro hx2 (And.intro hb1e hb2e)))
      clear hx1 hx2 hb1e hb2e
      go_wp2_with fail
      refine (joinTexts_any _ _ [x1, x2] [b1, b2] _ ?_ ?_ (by simp) ?_).mono ?_
      · exact (Vals.lit w3 _ _ 2 rfl (by omega)).keep ((Below.refl _ _).alloc (Nat.le_refl _) _)
      · have := Vals.lit (w3.alloc (.cells #[.string x1, .string x2] 9)) #[.bool b1, .bool b2] 4 2 rfl (by omega)
        unfold Bools; simpa using this
      · have h1 := L2.out.1
        simp only [Bool.not_not] at h1
        rw [h1, HE.out]
        have := S.out.2.2.1
        omega
      rintro e w4 ⟨rfl, hb4⟩
      have hb4' := (((hb3'.alloc hb3'.size _).alloc (by simp; have := hb3'.size; omega) _)).trans (hb4.mono (by simp; have := hb3'.size; omega))
      have HT4 := Lib.hid (Vals.keep HT.out ((hb2.trans (hb3.mono hb2.size)).trans ((((Below.refl _ _).alloc (Nat.le_refl _) (.cells #[.string x1, .string x2] 9)).alloc (by simp) (.cells #[.bool b1, .bool b2] 4)).mono (Nat.le_trans hb2.size hb3.size) |>.trans (hb4.mono (by simp; have := hb2.size; have := hb3.size; omega)))))
      have e1 : lines (kept [x1, x2] [b1, b2]) = lines ts := by have h1 := L2.out.1; simp only [Bool.not_not] at h1; rw [h1, HE.out]
      have e2 : (kept [x1, x2] [b1, b2]).isEmpty = ts.isEmpty := by have h1 := L2.out.2; simp only [Bool.not_not] at h1; rw [h1, HE.out]
      rw [e1, e2]
      clear hb4 e1 e2
      have hl5' : ts.length ≤ 68719476736 := by omega
      have hL : (lines ts).length ≤ 1099511627776 := by have := S.out.2.2.1; omega
      go_wp2_with fail
      refine (joinTextsNil_any _ ts _ HT4.out hl5' hL).mono ?_
      rintro e w5 ⟨rfl, hb5⟩
      have hfin := hb4'.trans (hb5.mono hb4'.size)
      clear hb5 hb4' HT4 L2 S hL
      generalize (⟨(lines ts).toArray⟩ : ByteArray) = q at *
      cases ts with
      | nil =>
        go_wp2_with fail
        go_ret
        exact ⟨rfl, hfin⟩
      | cons t r =>
        go_wp2_with fail
        go_ret
        exact ⟨rfl, hfin⟩
end Go.Proofs.Ytgkhnccedejjnaa
