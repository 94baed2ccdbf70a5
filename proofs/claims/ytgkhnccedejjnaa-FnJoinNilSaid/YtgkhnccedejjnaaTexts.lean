/-
  The contract of impl.JoinTexts: the texts in whose place there is no nil, with a newline between them, and whether there is one.
  Conditions: fewer than 2^36 texts, and a joined text of at most 2^40 bytes.
-/
import Derived.Test.YtgkhnccedejjnaaEs
import Derived.Test.YtgkhnccedejjnaaJoinErr
namespace Go.Proofs.Ytgkhnccedejjnaa
open Go.RowKit Go.Lib

/-- Two lists of one length, related place by place. -/
def All2 {α β : Type} (R : α → β → Prop) (xs : List α) (ys : List β) : Prop := xs.length = ys.length ∧ ∀ (i : Nat) x y, xs[i]? = some x → ys[i]? = some y → R x y

theorem All2.nil {α β : Type} (R : α → β → Prop) : All2 R [] [] := ⟨rfl, fun i x y h => by simp at h⟩
theorem All2.snoc {α β : Type} {R : α → β → Prop} {xs : List α} {ys : List β} {x : α} {y : β} (h : All2 R xs ys) (hxy : R x y) : All2 R (xs ++ [x]) (ys ++ [y]) := by
  refine ⟨by simp [h.1], fun i a b ha hb => ?_⟩
  rcases Nat.lt_or_ge i xs.length with hi | hi
  · rw [List.getElem?_append_left hi] at ha
    rw [List.getElem?_append_left (by rw [← h.1]; exact hi)] at hb
    exact h.2 i a b ha hb
  · rw [List.getElem?_append_right hi] at ha
    rw [List.getElem?_append_right (by rw [← h.1]; exact hi)] at hb
    rw [← h.1] at hb
    rcases Nat.eq_zero_or_pos (i - xs.length) with h0 | h0
    · rw [h0] at ha hb
      simp only [List.getElem?_cons_zero, Option.some.injEq] at ha hb
      subst ha hb
      exact hxy
    · obtain ⟨n, hn⟩ : ∃ n, i - xs.length = n + 1 := ⟨i - xs.length - 1, by omega⟩
      rw [hn] at ha
      simp at ha
theorem All2.imp {α β : Type} {R S : α → β → Prop} {xs : List α} {ys : List β} (h : All2 R xs ys) (f : ∀ x y, R x y → S x y) : All2 S xs ys := ⟨h.1, fun i x y hx hy => f x y (h.2 i x y hx hy)⟩

/-- The error y is one that New has made of t. -/
def TextErr (w : World) (y : Value) (t : ByteArray) : Prop := ∃ b, y = .iface 47 (.pointer (some ⟨b, 0, none⟩)) ∧ w.heap[b]? = some (.cells #[.string t] 49 (0, 0))

theorem TextErr.says {w : World} {y : Value} {t : ByteArray} (h : TextErr w y t) : Says w y t := by
  obtain ⟨b, rfl, hb⟩ := h
  refine ⟨_, _, 36, .pointer (some ⟨b, 0, none⟩), rfl, fun n W => by kernel_rfl, fun W => by kernel_rfl, fun w' hw => ?_⟩
  refine (esError_any ⟨b, 0, none⟩ t w' (cell_keep hw (cell_of_heap hb 0 rfl))).mono ?_
  rintro e w'' ⟨rfl, rfl⟩
  exact ⟨rfl, Below.refl _ _⟩

theorem TextErr.grown {w w' : World} {row : Option Nat} {y : Value} {t : ByteArray} (h : TextErr w y t) (hg : w.grownBy w' row) (hr : ∀ b cs fr, row = some b → w.heap[b]? ≠ some (.cells cs 49 fr)) : TextErr w' y t := by
  obtain ⟨b, rfl, hb⟩ := h
  exact ⟨b, rfl, (hg.block b (lt_of_heap hb) (fun e => hr b _ _ e.symm hb)).trans hb⟩

/-- The texts in whose place there is no nil. -/
def kept : List ByteArray → List Bool → List ByteArray
  | [], _ => []
  | t :: r, [] => t :: kept r []
  | t :: r, b :: bs => if b then kept r bs else t :: kept r bs

/-- Whether the text at place k is left out. -/
def out (bs : List Bool) (k : Nat) : Bool := bs.getD k false

theorem kept_take_succ : ∀ (ts : List ByteArray) (bs : List Bool) (k : Nat) (h : k < ts.length), kept (ts.take (k + 1)) bs = kept (ts.take k) bs ++ if out bs k then [] else [ts[k]]
  | [], _, _, h => by simp at h
  | t :: r, [], 0, _ => by simp [kept, out]
  | t :: r, b :: bs, 0, _ => by cases b <;> simp [kept, out]
  | t :: r, [], k + 1, h => by
    have := kept_take_succ r [] k (by simpa using h)
    simp only [List.take_succ_cons, kept, this]
    simp [out]
  | t :: r, b :: bs, k + 1, h => by
    have := kept_take_succ r bs k (by simpa using h)
    have e : out (b :: bs) (k + 1) = out bs k := by simp [out]
    cases b <;> simp [kept, this, e]

theorem kept_length_le : ∀ (ts : List ByteArray) (bs : List Bool), (kept ts bs).length ≤ ts.length
  | [], _ => by simp [kept]
  | t :: r, [] => by have := kept_length_le r []; simp [kept]; omega
  | t :: r, b :: bs => by have := kept_length_le r bs; cases b <;> simp [kept] <;> omega

theorem lines_nil : lines [] = [] := rfl

theorem there_append (a b : List Value) : there (a ++ b) = there a ++ there b := List.filter_append _ _

theorem TextErr.push {w w' : World} {base n : Nat} {v y : Value} {ys : List Value} {t : ByteArray} (hown : w.ownsRow base 38 1 v n ys) (hg : w.grownBy w' v.ownBlock) (h : TextErr w y t) : TextErr w' y t :=
  h.grown hg fun b cs fr hb hh => own_ne hown hh (by decide) hb

theorem step_nil {w w' : World} {base n : Nat} {v : Value} {ys : List Value} {L : List ByteArray} (hown : w.ownsRow base 38 1 v n ys) (hg : w.grownBy w' v.ownBlock) (h : All2 (TextErr w) (there ys) L) : All2 (TextErr w') (there (ys ++ [.nilIface])) L := by
  have e : there (ys ++ [.nilIface]) = there ys := by rw [there_append]; simp [there, nilB]
  rw [e]
  exact h.imp fun y t hy => hy.push hown hg

theorem step_new {w w' : World} {base n : Nat} {v : Value} {ys : List Value} {L : List ByteArray} {t : ByteArray} (hown : w.ownsRow base 38 1 v n ys) (hg : (w.alloc (.cells #[.string t] 49)).grownBy w' v.ownBlock)
    (h : All2 (TextErr w) (there ys) L) : All2 (TextErr w') (there (ys ++ [.iface 47 (.pointer (some ⟨w.heap.size, 0, none⟩))])) (L ++ [t]) := by
  have e : there (ys ++ [.iface 47 (.pointer (some ⟨w.heap.size, 0, none⟩))]) = there ys ++ [.iface 47 (.pointer (some ⟨w.heap.size, 0, none⟩))] := by rw [there_append]; simp [there, nilB]
  rw [e]
  refine All2.snoc (h.imp fun y t hy => ?_) ?_
  · obtain ⟨b, rfl, hb⟩ := hy
    exact TextErr.push (hown.alloc _) hg ⟨b, rfl, (Below.heap_alloc w _ b (lt_of_heap hb)).trans hb⟩
  · exact TextErr.push (hown.alloc _) hg ⟨w.heap.size, rfl, heap_alloc_new w _⟩

theorem isErr_snoc {ys : List Value} {y : Value} (h : ∀ y ∈ ys, IsErr y) (hy : IsErr y) : ∀ z ∈ ys ++ [y], IsErr z := by
  intro z hz
  rcases List.mem_append.1 hz with h1 | h1
  · exact h z h1
  · simp only [List.mem_singleton] at h1
    subst h1
    exact hy

set_option maxHeartbeats 1000000 in
theorem joinTexts_any (tv nv : Value) (ts : List ByteArray) (bs : List Bool) (w : World) (ht : Strs w tv ts) (hn : Bools w nv bs) (hr : ts.length ≤ 68719476736) (hsz : (lines (kept ts bs)).length ≤ 1099511627776) :
    Calls Try.prog 10 #[tv, nv] w fun e w' => e = .returned (.tuple #[.string ⟨(lines (kept ts bs)).toArray⟩, .bool (!(kept ts bs).isEmpty)]) ∧ Below w.heap.size w w' := by
  have HT := Lib.hid ht
  have HN := Lib.hid hn
  obtain ⟨A, cap, rfl, h1, h2, h3⟩ := ht
  obtain ⟨A2, cap2, rfl, k1, k2, k3⟩ := hn
  clear h1 h2 h3 k1 k3
  unfold maxLen at k2
  simp only [List.length_map] at *
  go_enter Try.func10, Try.ntmps10
  go_wp2_with fail
  go_loopw [6, 13] (fun v6 v13 wr => ∃ (k g cp : Nat) (ys : List Value), k ≤ ts.length ∧ v13 = .int .i64 k ∧ v6 = .slice (some ⟨g, 0, none⟩) k cp ∧ wr.ownsRow w.heap.size 38 1 (.slice (some ⟨g, 0, none⟩) k cp) k ys ∧ (∀ y ∈ ys, IsErr y) ∧ All2 (TextErr wr) (there ys) (kept (ts.take k) bs) ∧ Below w.heap.size w wr) (fun _ v13 _ => ts.length - (intOf v13).toNat)
  case atStart =>
    exact ⟨0, w.heap.size, 0, [], Nat.zero_le _, rfl, rfl, World.ownsRow_lit w #[] 0 (Nat.le_refl _) (by simp [maxLen]) (by simp), by simp, by simp only [List.take_zero, kept]; exact All2.nil _, (Below.refl _ _).alloc (Nat.le_refl _) _⟩
  case round =>
    obtain ⟨k, g, cp, ys, hk, rfl, rfl, hown, hys, hall, hbel⟩ := hrel
    have HY := Lib.hid hys
    have HA := Lib.hid hall
    clear hys hall
    have hs1 := hbel.size
    by_cases hlt : k < ts.length
    · obtain ⟨A', cap', hA, h1, h2, h3⟩ := Vals.keep HT.out hbel
      obtain ⟨b, off, rfl, hc⟩ := h3 (by simp; omega)
      have c0 := hc k (.string ts[k]) (by simp [hlt])
      have hA2 : A = some ⟨b, off, none⟩ := by injection hA
      subst hA2
      have HS := Lib.hid (kept_take_succ ts bs k hlt)
      clear hA hc h3 h1 h2
      generalize ts[k] = t at *
      by_cases hlb : k < bs.length
      · obtain ⟨A', cap', hA, h1, h2, h3⟩ := Vals.keep HN.out hbel
        obtain ⟨b2, off2, rfl, hc⟩ := h3 (by simp; omega)
        have c1 := hc k (.bool bs[k]) (by simp [hlb])
        have hA2 : A2 = some ⟨b2, off2, none⟩ := by injection hA
        subst hA2
        have ho : out bs k = bs[k] := by simp [out, hlb]
        have HO := Lib.hid ho
        clear hA hc h3 ho h1 h2
        generalize bs[k] = bk at *
        cases bk
        · go_wp2_with (first
            | (go_at_call 16; refine (new_any _ _).mono ?_; rintro e w1 ⟨rfl, rfl⟩)
            | (at_builtin; refine wpList_push rfl _ _ _ rfl elemErr rfl (hown.alloc _) rfl (by simp) rfl (by simp [Value.oneCell']) (by omega) (by simp; omega) ?_; intro g' cp' w' hown' hbel' hgr' hlt' hat'))
          go_roundw
          case rel => exact ⟨k + 1, g', cp', ys ++ [_], hlt, by go_num, rfl, hown', isErr_snoc HY.out (.inr ⟨_, _, rfl⟩), by rw [HS.out, HO.out]; exact step_new hown hgr' HA.out, (hbel.alloc hs1 _).trans hbel'⟩
          case measure => simp [intOf]; omega
        · have HS2 := Lib.hid (show kept (ts.take (k + 1)) bs = kept (ts.take k) bs by rw [HS.out, HO.out]; simp)
          go_wp2_with (at_builtin; refine wpList_push rfl _ _ _ rfl elemErr rfl hown rfl rfl rfl (by simp [Value.oneCell']) (by omega) (by omega) ?_; intro g' cp' w' hown' hbel' hgr' hlt' hat')
          go_roundw
          case rel => exact ⟨k + 1, g', cp', ys ++ [.nilIface], hlt, by go_num, rfl, hown', isErr_snoc HY.out (.inl rfl), by rw [HS2.out]; exact step_nil hown hgr' HA.out, hbel.trans hbel'⟩
          case measure => simp [intOf]; omega
      · have HO := Lib.hid (show out bs k = false by simp [out, List.getD, List.getElem?_eq_none (Nat.le_of_not_lt hlb)])
        go_wp2_with (first
          | (go_at_call 16; refine (new_any _ _).mono ?_; rintro e w1 ⟨rfl, rfl⟩)
          | (at_builtin; refine wpList_push rfl _ _ _ rfl elemErr rfl (hown.alloc _) rfl (by simp) rfl (by simp [Value.oneCell']) (by omega) (by simp; omega) ?_; intro g' cp' w' hown' hbel' hgr' hlt' hat'))
        go_roundw
        case rel => exact ⟨k + 1, g', cp', ys ++ [_], hlt, by go_num, rfl, hown', isErr_snoc HY.out (.inr ⟨_, _, rfl⟩), by rw [HS.out, HO.out]; exact step_new hown hgr' HA.out, (hbel.alloc hs1 _).trans hbel'⟩
        case measure => simp [intOf]; omega
    · obtain rfl : k = ts.length := by omega
      have hyl : ys.length = ts.length := by have := hown.1; omega
      have hall := HA.out
      rw [List.take_length] at hall
      have hval := Vals.of_own hown
      have HJ := Lib.hid (And.intro hval (And.intro HY.out hall))
      have hj16 : ys.length * 16 ≤ 140737488351232 := by omega
      clear hval hall hyl HA HY hown
      go_wp2_with fail
      refine (join_any _ ys _ HJ.out.1 HJ.out.2.1 hj16).mono ?_
      rintro e w1 ⟨hb1, hjoin⟩
      have hbW : Below w.heap.size w w1 := hbel.trans (hb1.mono hs1)
      rcases hjoin with ⟨he, rfl⟩ | ⟨hne, g2, sv, rfl, hg2, hg3, hv0⟩
      · have hk0 : kept ts bs = [] := List.eq_nil_of_length_eq_zero (by rw [← HJ.out.2.2.1, he]; rfl)
        have HK := Lib.hid hk0
        clear hk0 he
        go_wp2_with fail
        go_ret2
        exact ⟨by rw [HK.out]; rfl, hbW⟩
      · have hv := Vals.of_own hv0
        clear hv0
        have hsay : ∀ (i : Nat) x t, (there ys)[i]? = some x → (kept ts bs)[i]? = some t → Says w1 x t := fun i x t hx ht => ((HJ.out.2.2.2 i x t hx ht).says).keep hb1
        have hlen := HJ.out.2.2.1
        generalize hL : kept ts bs = L at *
        generalize there ys = xs at *
        have hxl : xs.length ≤ ts.length := by rw [hlen, ← hL]; exact kept_length_le ts bs
        have HL := Lib.hid hL
        have hcell := cell_of_heap hg3 0 rfl
        clear hL HJ
        match xs, L, hlen with
        | [], _, _ => exact absurd rfl hne
        | [x], [t], _ =>
          have hs1 := hsay 0 x t rfl rfl
          clear hsay hne
          go_wp2_with fail
          refine (joinError_one g2 sv x t w1 hcell hv hs1).mono ?_
          rintro e w2 ⟨rfl, hb2⟩
          go_wp2_with fail
          go_ret2
          exact ⟨by rw [HL.out]; simp [lines, tailLines], hbW.trans (hb2.mono hbW.size)⟩
        | x :: x' :: r, t :: t' :: q, hlen =>
          have hs0 := hsay 0 x t rfl rfl
          have hss : ∀ (i : Nat) y u, (x' :: r)[i]? = some y → (t' :: q)[i]? = some u → Says w1 y u := fun i y u hy hu => hsay (i + 1) y u (by simpa using hy) (by simpa using hu)
          have HSS := Lib.hid hss
          have HLL := Lib.hid (show (x' :: r).length = (t' :: q).length by simpa using hlen)
          have HSZ := Lib.hid (show (lines (t :: t' :: q)).length ≤ 1099511627776 by exact hsz)
          have hn2 : (x' :: r).length ≤ 1099511627776 := by simp at hxl ⊢; omega
          have HN2 := Lib.hid hn2
          clear hsay hne hlen hss hn2 hsz hxl
          go_wp2_with fail
          refine (joinError_many g2 sv x t (x' :: r) (t' :: q) w1 hcell hv HLL.out (by simp) hs0 HSS.out HSZ.out HN2.out).mono ?_
          rintro e w2 ⟨rfl, hb2⟩
          go_wp2_with fail
          go_ret2
          exact ⟨by rw [HL.out]; rfl, hbW.trans (hb2.mono hbW.size)⟩
end Go.Proofs.Ytgkhnccedejjnaa
