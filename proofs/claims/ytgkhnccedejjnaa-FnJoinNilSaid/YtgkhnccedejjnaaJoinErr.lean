/-
  The contract of the method Error of a joined error: the texts of the errors that it holds, with a newline between them, if each of these says its text.
  Conditions: the whole text has at most 2^40 bytes.
-/
import Derived.Test.YtgkhnccedejjnaaProg
import Derived.Test.YtgkhnccedejjnaaJoin
import Derived.Test.YtgkhnccedejjnaaBuf
namespace Go.Proofs.Ytgkhnccedejjnaa
open Go.RowKit Go.Lib

/-- The error x has the text s, now and in every later world. -/
def Says (w : World) (x : Value) (s : ByteArray) : Prop :=
  ∃ t u f u', x = .iface t u ∧ (∀ n W, (Go.method (n + 1) t u "Error").run Try.prog W = .ok (f, u') W) ∧ (∀ W, (callFunc f #[u']).run Try.prog W = .ok (.enter f #[u']) W) ∧
    ∀ w', Below w.heap.size w w' → Calls Try.prog f #[u'] w' fun e w'' => e = .returned (.string s) ∧ Below w'.heap.size w' w''

theorem Says.keep {w w' : World} {x : Value} {s : ByteArray} (h : Says w x s) (hb : Below w.heap.size w w') : Says w' x s := by
  obtain ⟨t, u, f, u', h1, h2, h2', h3⟩ := h
  exact ⟨t, u, f, u', h1, h2, h2', fun w'' h => h3 w'' (hb.trans (h.mono hb.size))⟩

/-- Texts, each behind a newline. -/
def tailLines (r : List ByteArray) : List UInt8 := r.flatMap fun t => 10 :: t.data.toList
/-- Texts with a newline between them. -/
def lines : List ByteArray → List UInt8
  | [] => []
  | s :: r => s.data.toList ++ tailLines r

theorem tailLines_snoc (r : List ByteArray) (t : ByteArray) : tailLines (r ++ [t]) = tailLines r ++ 10 :: t.data.toList := by simp [tailLines]
theorem lines_snoc (s : ByteArray) (r : List ByteArray) (t : ByteArray) : lines (s :: (r ++ [t])) = lines (s :: r) ++ 10 :: t.data.toList := by simp [lines, tailLines_snoc]
theorem bytes_eta (s : ByteArray) : (⟨s.data.toList.toArray⟩ : ByteArray) = s := by simp
theorem tailLines_take_le (r : List ByteArray) (k : Nat) : (tailLines (r.take k)).length ≤ (tailLines r).length := by
  have h : tailLines r = tailLines (r.take k) ++ tailLines (r.drop k) := by
    conv => lhs; rw [← List.take_append_drop k r]
    simp only [tailLines, List.flatMap_append]
  rw [h, List.length_append]
  omega

theorem elemByte : Elem Try.prog 32 5 1 1 := Elem.mk Try.underlying32 (z := .int .u8 0) (by kernel_rfl) rfl (by decide) (by decide)
theorem zeroByte : (Try.prog.info? 5).map (·.zero) = some (some (.int .u8 0)) := by kernel_rfl

set_option maxHeartbeats 1000000 in
theorem joinError_one (g : Nat) (sv x : Value) (s : ByteArray) (w : World) (hg : w.cell? ⟨g, 0, none⟩ = some sv) (h : Vals w sv [x]) (hs : Says w x s) :
    Calls Try.prog 37 #[.pointer (some ⟨g, 0, none⟩)] w fun e w' => e = .returned (.string s) ∧ Below w.heap.size w w' := by
  obtain ⟨A, cap, rfl, h1, h2, h3⟩ := h
  obtain ⟨b, off, rfl, hc⟩ := h3 (by simp)
  have c0 := hc 0 x rfl
  obtain ⟨t, u, f, u', rfl, hm, hcf, hf⟩ := hs
  have HF := Lib.hid hf
  clear h1 h2 h3 hc hf
  simp only [Nat.add_zero] at c0
  go_enter Try.func37, Try.ntmps37
  go_wp2_with fail
  refine (HF.out _ (Below.refl _ _)).mono ?_
  rintro e w' ⟨rfl, hb⟩
  go_wp2
  go_ret
  exact ⟨rfl, hb⟩

set_option maxRecDepth 100000 in
set_option maxHeartbeats 2000000 in
theorem joinError_many (g : Nat) (sv x0 : Value) (s0 : ByteArray) (xs : List Value) (ss : List ByteArray) (w : World) (hg : w.cell? ⟨g, 0, none⟩ = some sv) (h : Vals w sv (x0 :: xs)) (hlen : xs.length = ss.length) (h0 : 0 < xs.length)
    (hs0 : Says w x0 s0) (hs : ∀ (i : Nat) x s, xs[i]? = some x → ss[i]? = some s → Says w x s) (hsz : (lines (s0 :: ss)).length ≤ 1099511627776) (hn : xs.length ≤ 1099511627776) :
    Calls Try.prog 37 #[.pointer (some ⟨g, 0, none⟩)] w fun e w' => e = .returned (.string ⟨(lines (s0 :: ss)).toArray⟩) ∧ Below w.heap.size w w' := by
  have HV := Lib.hid h
  have HG := Lib.hid hg
  have HS := Lib.hid hs
  obtain ⟨A, cap, rfl, h1, h2, h3⟩ := h
  obtain ⟨b, off, rfl, hc⟩ := h3 (by simp)
  have c0 := hc 0 x0 rfl
  obtain ⟨t, u, f, u', rfl, hm, hcf, hf⟩ := hs0
  have HF := Lib.hid hf
  have hne : (((xs.length + 1 : Nat) : Int) == 1) = false := by rw [beq_eq_false_iff_ne]; omega
  have HL := Lib.hid hlen
  clear h2 h3 hf hs hlen
  have HC := Lib.hid hc
  clear hc
  simp only [Nat.add_zero, List.length_cons] at *
  go_enter Try.func37, Try.ntmps37
  go_wp2_with fail
  refine (HF.out _ (Below.refl _ _)).mono ?_
  rintro e w1 ⟨rfl, hb1⟩
  have hcv := Lib.run_convert_string_bytes (P := Try.prog) w1 9 32 5 s0 Try.underlying9 Try.underlying32 Try.underlying5
  have hs0l : s0.size ≤ 1099511627776 := by have : (lines (s0 :: ss)).length = s0.size + (tailLines ss).length := by simp [lines]
                                            omega
  have hB2 := hb1.trans ((below_convert w1 5 s0).mono hb1.size)
  have hg2 := cell_keep hB2 HG.out
  have hbuf := buf_convert w1 5 s0 (by omega)
  clear hg c0 hm hcf
  generalize bytesWorld w1 5 s0 = w2 at *
  generalize grownCap w1 s0.size 0 5 = cap2 at *
  have hbuf2 : Buf w2 w.heap.size 5 w1.heap.size cap2 s0.data.toList := ⟨hb1.size, hbuf.2⟩
  have HB := Lib.hid (And.intro hB2 hbuf2)
  clear hbuf hbuf2 hB2 hb1
  go_wp2_with fail
  go_loopw [3, 33] (fun v3 v33 wr => ∃ k g' cp' : Nat, k ≤ xs.length ∧ v33 = .int .i64 k ∧ v3 = .slice (some ⟨g', 0, none⟩) (lines (s0 :: ss.take k)).length cp' ∧ Buf wr w.heap.size 5 g' cp' (lines (s0 :: ss.take k)) ∧ Below w.heap.size w wr) (fun _ v33 _ => xs.length - (intOf v33).toNat)
  case atStart =>
    have he : lines (s0 :: ss.take 0) = s0.data.toList := by simp [lines, tailLines]
    exact ⟨0, w1.heap.size, cap2, Nat.zero_le _, rfl, by rw [he]; simp, by rw [he]; exact HB.out.2, HB.out.1⟩
  case round =>
    obtain ⟨k, g', cp', hk, rfl, rfl, hbuf, hbel⟩ := hrel
    by_cases hlt : k < xs.length
    · have hlt2 : k < ss.length := by rw [← HL.out]; exact hlt
      have c1 := cell_keep hbel (HC.out (k + 1) xs[k] (by simp [hlt]))
      have c2 : wr.cell? ⟨b, off + 1 + k, none⟩ = some xs[k] := by rw [show off + 1 + k = off + (k + 1) by omega]; exact c1
      have hsay := (HS.out k xs[k] ss[k] (List.getElem?_eq_getElem hlt) (List.getElem?_eq_getElem hlt2))
      have HN := Lib.hid (show lines (s0 :: ss.take (k + 1)) = (lines (s0 :: ss.take k) ++ [10]) ++ ss[k].data.toList by rw [List.take_succ_eq_append_getElem hlt2, lines_snoc]; simp)
      have hl1 : (lines (s0 :: ss.take (k + 1))).length ≤ 1099511627776 := by
        have a1 := tailLines_take_le ss (k + 1)
        have a2 : (lines (s0 :: ss)).length = s0.size + (tailLines ss).length := by simp [lines]
        have a3 : (lines (s0 :: ss.take (k + 1))).length = s0.size + (tailLines (ss.take (k + 1))).length := by simp [lines]
        omega
      rw [HN.out] at hl1
      clear c1
      generalize hx : xs[k] = x at *
      generalize hsk : ss[k] = s at *
      generalize lines (s0 :: ss.take k) = L at *
      have hl2 : L.length + 1 + s.size ≤ 1099511627776 := by simp at hl1; omega
      clear hx hsk hl1
      obtain ⟨t2, u2, f2, u2', rfl, hm2, hcf2, hf2⟩ := hsay
      have HF2 := Lib.hid hf2
      have hsz1 := hbel.size
      have hglt := hbuf.lt
      clear hf2 HF
      go_wp2_with (at_builtin; refine wpList_bufpush rfl (.tmp 37) (.tmp 38) rfl elemByte zeroByte rfl hbuf 10 rfl (by omega) hsz1 ?_; intro g3 cp3 w3 hbuf3 hgr3)
      have hb3 : Below w.heap.size w w3 := hbel.grown hgr3 hsz1 (fun k hk => by injection hk with hk; rw [← hk]; exact hbuf.1)
      refine (HF2.out w3 hb3).mono ?_
      rintro e w4 ⟨rfl, hb4⟩
      have hbuf4 := hbuf3.below hb4
      have hb5 := hb3.trans (hb4.mono hb3.size)
      have hsz5 := hb5.size
      have hLl : (L ++ [10]).length = L.length + 1 := by simp
      have HLl := Lib.hid hLl
      clear hLl
      go_wp2_with (at_builtin; refine wpList_bufstr rfl (.tmp 40) (.tmp 42) rfl elemByte zeroByte Try.underlying9 (by rw [HLl.out]; rfl) hbuf4 s rfl (by rw [HLl.out]; omega) hsz5 ?_; intro g6 cp6 w6 hbuf6 hgr6; rw [HLl.out])
      go_roundw
      case rel => exact ⟨k + 1, g6, cp6, hlt, by go_num, by rw [HN.out]; congr 1; simp; omega, by rw [HN.out]; exact hbuf6, hb5.grown hgr6 hsz5 (fun k hk => by injection hk with hk; rw [← hk]; exact hbuf4.1)⟩
      case measure => simp [intOf]; omega
    · obtain rfl : k = xs.length := by omega
      rw [HL.out, List.take_length] at hbuf ⊢
      have hpos : 0 < (lines (s0 :: ss)).length := by
        have hq : 0 < ss.length := by rw [← HL.out]; exact h0
        cases ss with
        | nil => simp at hq
        | cons a r => simp [lines, tailLines]; omega
      have hsh : wr.shape? g' = some (5, cp') := by
        obtain ⟨_, _, _, cur, fz, hgg, _, hcs, _⟩ := hbuf
        simp [World.shape?, hgg, hcs]
      have hus := run_unsafeString_row (P := Try.prog) wr 63 3 9 5 Try.underlying63 (by kernel_rfl) g' cp' hsh (lines (s0 :: ss)) (fun e => by rw [e] at hpos; simp at hpos) hbuf.2.1 (by omega) hbuf.cell
      have hfin := below_freeze hbel (p := ⟨g', 0, none⟩) hbuf.1 (lines (s0 :: ss)).length
      clear hsh hbuf HC HV HS HB HG HL hcv
      generalize hL : lines (s0 :: ss) = L at *
      have HE := Lib.hid hL
      clear hL
      go_wp2
      go_ret
      exact ⟨by rw [HE.out]; rfl, hfin⟩
end Go.Proofs.Ytgkhnccedejjnaa
