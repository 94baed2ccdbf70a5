/-
  The contract of the reference's Text.
  Conditions: at most 2^36 kids of a node; texts of at most 2^40 bytes.
-/
import Derived.Test.YtlobmpfgimdpgaaSays
import Derived.Test.YtlobmpfgimdpgaaLines
import Derived.Test.YtlobmpfgimdpgaaSpecUnwrap
namespace Go.Proofs.Ytlobmpfgimdpgaa
open Go.RowKit Go.Lib

theorem elemStr : Elem Try.prog 43 9 1 16 := Elem.mk Try.underlying43 (z := .string ByteArray.empty) (by kernel_rfl) rfl (by decide) (by decide)

theorem own_two (w : World) (o o2 : Obj) (et : TypeId) : (((w.alloc o).alloc o2).alloc (.cells #[] et)).ownsRow w.heap.size et 1 (.slice (some ⟨w.heap.size + 1 + 1, 0, none⟩) 0 0) 0 [] := by
  have hs : ((w.alloc o).alloc o2).heap.size = w.heap.size + 1 + 1 := by
    show ((w.heap.push _).push _).size = _
    rw [Array.size_push, Array.size_push]
  have := World.ownsRow_lit (base := w.heap.size) (e := et) (size := 1) ((w.alloc o).alloc o2) #[] 0 (by omega) (by simp [maxLen]) (by simp)
  rw [hs] at this
  exact this

/-- The texts of the first kids. -/
def kidTexts (ns : List Nd) (k c : Nat) : List ByteArray := ((kidsOf ns k).take c).map (textOf ns)
theorem kidTexts_length (ns : List Nd) (k c : Nat) (h : c ≤ (kidsOf ns k).length) : (kidTexts ns k c).length = c := by simp [kidTexts]; omega
theorem kidTexts_succ (ns : List Nd) (k c : Nat) (h : c < (kidsOf ns k).length) : kidTexts ns k (c + 1) = kidTexts ns k c ++ [textOf ns (kidsOf ns k)[c]] := by
  unfold kidTexts
  rw [List.take_succ_eq_append_getElem h, List.map_append]
  rfl
theorem kidTexts_all (ns : List Nd) (k : Nat) : kidTexts ns k (kidsOf ns k).length = (kidsOf ns k).map (textOf ns) := by
  unfold kidTexts
  rw [List.take_length]

set_option maxRecDepth 100000 in
set_option maxHeartbeats 4000000 in
theorem text_f (ns : List Nd) (NA : Option Addr) (nc : Nat) (kv : Nat → Value) (gi gk : Nat) (ks : Nat → Value) (hkl : ∀ nd ∈ ns, nd.kids.length ≤ 68719476736) (hsz : ∀ j, j < ns.length → (textOf ns j).size ≤ 1099511627776) :
    ∀ (m j : Nat) (w : World), ns.length - j ≤ m → isThere ns j = true → FVal w ns NA nc kv gi gk ks →
    Calls Try.prog 16 #[.agg #[.slice NA ns.length nc, .slice (some ⟨gi, 0, none⟩) ns.length ns.length, .slice (some ⟨gk, 0, none⟩) ns.length ns.length], .int .i64 (j : Int)] w fun e w' => e = .returned (.string (textOf ns j)) ∧ Below w.heap.size w w' := by
  intro m
  induction m with
  | zero => intro j w hm hT; have := isThere_lt hT; omega
  | succ m ih =>
    intro j w hm hT F
    have hncm : nc ≤ 9223372036854775807 := by
      obtain ⟨_, c, e, _, h⟩ := F.nodes.form
      injection e with _ _ e
      subst e
      simpa [maxLen] using h
    have hj := isThere_lt hT
    obtain ⟨nd, k, hn, hk⟩ := isThere_kind hT
    have hte := textOf_eq ns j nd hn
    rw [hk] at hte
    have hB0 := below_alloc w (.cells #[.slice NA ns.length nc, .slice (some ⟨gi, 0, none⟩) ns.length ns.length, .slice (some ⟨gk, 0, none⟩) ns.length ns.length] 31)
    have hbx0 := heap_alloc_new w (.cells #[.slice NA ns.length nc, .slice (some ⟨gi, 0, none⟩) ns.length ns.length, .slice (some ⟨gk, 0, none⟩) ns.length ns.length] 31)
    have hkw : nd.kind = k.word := word_of_kind hk
    obtain ⟨b, off, QA, qc, rfl, hkv, n0, n1, n2, n3, _, _⟩ := (F.keep hB0).nodes.at hn
    rw [hkw] at n0
    have HF := Lib.hid F
    have HB := Lib.hid (And.intro hB0 hbx0)
    have HZ := Lib.hid (And.intro hkl (And.intro hsz hn))
    have IH := Lib.hid ih
    clear F hn hkv hB0 hbx0 hkw hk hkl hsz ih hT
    obtain ⟨kd, ky, tx, kids⟩ := nd
    cases k
    case join =>
      simp only [K8.word, kJoin] at n0
      have hsj := HZ.out.2.1 j hj
      simp only at hte
      have HT := Lib.hid hte
      clear hte
      have hkn := kidsOf_length ns j _ HZ.out.1
      have hstB : ∀ o o', Below w.heap.size w (((w.alloc (.cells #[.slice (some ⟨b, off, none⟩) ns.length nc, .slice (some ⟨gi, 0, none⟩) ns.length ns.length, .slice (some ⟨gk, 0, none⟩) ns.length ns.length] 31)).alloc o).alloc o') := fun o o' => (HB.out.1.alloc HB.out.1.size o).alloc (HB.out.1.alloc HB.out.1.size o).size o'
      have hstX : ∀ o o', (((w.alloc (.cells #[.slice (some ⟨b, off, none⟩) ns.length nc, .slice (some ⟨gi, 0, none⟩) ns.length ns.length, .slice (some ⟨gk, 0, none⟩) ns.length ns.length] 31)).alloc o).alloc o').heap[w.heap.size]? = some (.cells #[.slice (some ⟨b, off, none⟩) ns.length nc, .slice (some ⟨gi, 0, none⟩) ns.length ns.length, .slice (some ⟨gk, 0, none⟩) ns.length ns.length] 31 (0, 0)) := fun o o' => heap_keep (below_alloc _ o') (heap_keep (below_alloc _ o) HB.out.2)
      obtain ⟨KA, kc, hks, hkl2, hkm⟩ := (HF.out.kids j hj).form
      rw [asInts_length] at hks hkl2
      have dKA : ∀ o o', (((w.alloc (.cells #[.slice (some ⟨b, off, none⟩) ns.length nc, .slice (some ⟨gi, 0, none⟩) ns.length ns.length, .slice (some ⟨gk, 0, none⟩) ns.length ns.length] 31)).alloc o).alloc o').cell? ⟨gk, j, none⟩ = some (.slice KA (kidsOf ns j).length kc) := fun o o' => by
        obtain ⟨b', off', e, h⟩ := rows_at (HF.out.keep (hstB o o')).rows hj
        injection e with e
        injection e with e1 e2
        subst e1 e2
        rw [hks, Nat.zero_add] at h
        exact h
      have d2A : ∀ o o', (((w.alloc (.cells #[.slice (some ⟨b, off, none⟩) ns.length nc, .slice (some ⟨gi, 0, none⟩) ns.length ns.length, .slice (some ⟨gk, 0, none⟩) ns.length ns.length] 31)).alloc o).alloc o').cell? ⟨w.heap.size, 2, none⟩ = some (.slice (some ⟨gk, 0, none⟩) ns.length ns.length) := fun o o' => (box3 (hstX o o')).2.2
      have HS := Lib.hid (And.intro hstB (And.intro hstX hks))
      simp only [maxLen] at hkm
      clear hstB hstX hks
      go_enter Try.func16, Try.ntmps16
      go_wp2_with fail
      clear d2A dKA n0 n1 n2 n3
      go_loopw [6, 34] (fun v5 v21 wr => ∃ c g cp : Nat, c ≤ (kidsOf ns j).length ∧ v21 = .int .i64 c ∧ v5 = .slice (some ⟨g, 0, none⟩) c cp ∧ wr.ownsRow w.heap.size 9 1 (.slice (some ⟨g, 0, none⟩) c cp) c ((kidTexts ns j c).map .string) ∧ Below w.heap.size w wr ∧ wr.heap[w.heap.size]? = some (.cells #[.slice (some ⟨b, off, none⟩) ns.length nc, .slice (some ⟨gi, 0, none⟩) ns.length ns.length, .slice (some ⟨gk, 0, none⟩) ns.length ns.length] 31 (0, 0))) (fun _ v21 _ => (kidsOf ns j).length - (intOf v21).toNat)
      case atStart =>
        refine ⟨0, _, 0, Nat.zero_le _, rfl, rfl, ?_, HS.out.1 _ _, HS.out.2.1 _ _⟩
        exact own_two w _ _ _
      case round =>
        obtain ⟨c, g, cp, hc, rfl, rfl, hown, hbel, hblk⟩ := hrel
        have hs1 := hbel.size
        by_cases hlt : c < (kidsOf ns j).length
        · have hF1 := HF.out.keep hbel
          have hkv := hF1.kids j hj
          rw [HS.out.2.2] at hkv
          obtain ⟨b2, off2, rfl, c0⟩ := hkv.at (asInts_get hlt)
          have hmem := kidsOf_mem (List.getElem_mem hlt)
          have HTS := Lib.hid (kidTexts_succ ns j c hlt)
          obtain ⟨d0, d1, d2⟩ := box3 hblk
          have HK := Lib.hid (And.intro hblk (And.intro hF1 hown))
          generalize (kidsOf ns j)[c] = q at *
          clear hblk hkv hF1 hown
          go_wp2_with fail
          refine (IH.out q _ (by omega) hmem.2.2 HK.out.2.1).mono ?_
          rintro e w2 ⟨rfl, hb2⟩
          have ho := own_below HK.out.2.2 hb2
          have hn2 := heap_keep hb2 HK.out.1
          have hs2 := hb2.size
          have HN := Lib.hid (And.intro hn2 (And.intro hb2 (own_ne ho hn2 (by decide))))
          clear hn2 hb2
          go_wp2_with (at_builtin; refine wpList_push rfl _ _ _ rfl elemStr rfl ho rfl rfl rfl (by simp [Value.oneCell']) (by omega) (by omega) ?_; intro g4 cp4 w4 hown4 hbel4 hgr4 hlt4 hat4)
          go_roundw
          case rel =>
            refine ⟨c + 1, g4, cp4, hlt, by go_num, rfl, by rw [HTS.out, List.map_append]; exact hown4, (below_after hbel HN.out.2.1).trans hbel4, (hgr4.block _ (lt_of_heap HN.out.1) (fun e => HN.out.2.2 e.symm)).trans HN.out.1⟩
          case measure => simp [intOf]; omega
        · obtain rfl : c = (kidsOf ns j).length := by omega
          rw [kidTexts_all] at hown
          have hstr : Strs wr (.slice (some ⟨g, 0, none⟩) (kidsOf ns j).length cp) ((kidsOf ns j).map (textOf ns)) := Vals.of_own hown
          have hsz2 : (lines ((kidsOf ns j).map (textOf ns))).length ≤ 1099511627776 := by
            rw [HT.out] at hsj
            have h : (lines ((kidsOf ns j).map (textOf ns))).toArray.size ≤ 1099511627776 := hsj
            simpa using h
          have HLN := Lib.hid (lines_any _ _ wr hstr (by rw [List.length_map]; exact hkn) hsz2)
          clear hblk hown hstr hsz2 hsj
          go_wp2_with fail
          refine HLN.out.mono ?_
          rintro e w5 ⟨rfl, rfl⟩
          go_wp2_with fail
          go_ret
          exact ⟨by rw [HT.out]; rfl, hbel⟩
    all_goals
      simp only [K8.word, kText, kValue, kList, kWrap, kMany, kAlike, kActs] at n0
      have HT := Lib.hid hte
      clear hte
      go_enter Try.func16, Try.ntmps16
      go_wp2_with fail
      go_ret
      exact ⟨by rw [HT.out]; rfl, HB.out.1.alloc HB.out.1.size _⟩
end Go.Proofs.Ytlobmpfgimdpgaa
