/-
  The contracts of the reader's method index and of the reference's DrawJoinKids.
  Conditions: at most 2^20 bytes, and at most 2^40 picks before.
-/
import Derived.Test.YtlobmpfgimdpgaaDrawN
namespace Go.Proofs.Ytlobmpfgimdpgaa
open Go.RowKit Go.Lib

/-- What index leaves. -/
def Indexed (w : World) (g : Nat) (cv : Value) (cl : List Int) (p : Nat) (e : Ending) (w' : World) : Prop := ∃ (x : Int) (p' : Nat), e = .returned (.int .i64 x) ∧ p' ≤ p + 2 ∧ Rd w' g cv cl p' ∧ w.grownBy w' (some g)

set_option maxHeartbeats 1000000 in
theorem rdIndex_any (w : World) (g : Nat) (cv : Value) (cl : List Int) (p : Nat) (n : Int) (h : Rd w g cv cl p) (hp : p + 1 ≤ 1099511627776) (hn : n ≤ 1048576) :
    Calls Try.prog 48 #[.pointer (some ⟨g, 0, none⟩), .int .i64 n] w (Indexed w g cv cl p) := by
  have H := Lib.hid h
  clear h
  go_enter Try.func48, Try.ntmps48
  go_wp2_with fail
  refine (pick_any _ g cv cl p 16 H.out (by omega) (by omega)).mono ?_
  rintro e w1 ⟨r, hr0, hr1, _, rfl, hrd, hgr⟩
  have HR := Lib.hid (And.intro hrd hgr)
  clear hrd hgr hr1
  by_cases hz : r = 0
  · subst hz
    go_wp2_with fail
    refine (pick_any _ g cv cl (p + 1) 4 (HR.out.1.keep (below_alloc _ _)) (by omega) (by omega)).mono ?_
    rintro e w2 ⟨r2, hr20, hr21, _, rfl, hrd2, hgr2⟩
    have hr2 := hr21 (by omega)
    have hg1 : g < w1.heap.size := HR.out.1.lt
    have hb := (hgr2.block w1.heap.size (by simp) (fun e => by injection e with e; omega)).trans (heap_alloc_new w1 _)
    obtain ⟨k, rfl⟩ := Int.eq_ofNat_of_zero_le hr20
    have hk : k < 4 := by omega
    obtain ⟨x, hx⟩ : ∃ x : Int, w2.cell? ⟨w1.heap.size, k, none⟩ = some (.int .i64 x) := by
      rcases (show k = 0 ∨ k = 1 ∨ k = 2 ∨ k = 3 by omega) with rfl | rfl | rfl | rfl
      · exact ⟨_, cell_of_heap hb 0 rfl⟩
      · exact ⟨_, cell_of_heap hb 1 rfl⟩
      · exact ⟨_, cell_of_heap hb 2 rfl⟩
      · exact ⟨_, cell_of_heap hb 3 rfl⟩
    have HR2 := Lib.hid (And.intro hrd2 (grown_trans (grown_below HR.out.2 (below_alloc _ _)) hgr2 (fun k e => by injection e with e; exact .inl e.symm)))
    clear hb hrd2 hgr2 hr21
    go_wp2_with fail
    go_ret
    exact ⟨x, p + 1 + 1, rfl, by omega, HR2.out.1, HR2.out.2⟩
  · have hz2 : (r == 0) = false := by simpa using hz
    go_wp2_with fail
    refine (pick_any _ g cv cl (p + 1) n HR.out.1 (by omega) hn).mono ?_
    rintro e w2 ⟨r2, hr20, _, _, rfl, hrd2, hgr2⟩
    have HR2 := Lib.hid (And.intro hrd2 (grown_trans HR.out.2 hgr2 (fun k e => by injection e with e; exact .inl e.symm)))
    clear hrd2 hgr2
    go_wp2_with fail
    go_ret
    exact ⟨r2, p + 1 + 1, rfl, by omega, HR2.out.1, HR2.out.2⟩

/-- Drawn nodes and indices. -/
def DrewKids (w : World) (e : Ending) (w' : World) : Prop := ∃ v ns kv iv l, e = .returned (.tuple #[v, iv]) ∧ Nodes w' v ns kv ∧ Drawn8 ns ∧ Ints w' iv l ∧ l.length ≤ 4 ∧ Below w.heap.size w w'

set_option maxRecDepth 100000 in
set_option maxHeartbeats 2000000 in
theorem drawJoinKids_any (w : World) (cv : Value) (cl : List Int) (hv : Vals w cv (cl.map (.int .u8))) (hr : ∀ c ∈ cl, 0 ≤ c ∧ c ≤ 255) (hs : cl.length ≤ 1048576) :
    Calls Try.prog 30 #[cv] w (DrewKids w) := by
  have HR := Lib.hid (Rd.new w cv cl hv hr hs)
  obtain ⟨A, cap, hcv, _, _⟩ := hv.form
  rw [List.length_map] at hcv
  subst hcv
  clear hv hr
  go_enter Try.func30, Try.ntmps30
  go_wp2_with fail
  refine (nodes_any _ w.heap.size _ cl 0 HR.out (by omega)).mono ?_
  rintro e w1 ⟨v, ns, kv, p', rfl, hp', hst⟩
  have hN8 := hst.small.len
  have HS := Lib.hid (And.intro hst (below_of_grown (below_alloc _ _) hst.gr (Nat.le_refl _)))
  obtain ⟨B, capB, rfl, _, _⟩ := hst.nodes.form
  have hg1 := hst.rd.lt
  clear hst
  go_wp2_with fail
  refine (pick_any _ w.heap.size _ cl p' 5 (HS.out.1.rd.keep (below_alloc _ _)) (by omega) (by omega)).mono ?_
  rintro e w2 ⟨r, hr0, hr1, _, rfl, hrd2, hgr2⟩
  have hr5 := hr1 (by omega)
  have hO2 : w2.ownsRow w1.heap.size 3 1 (.slice (some ⟨w1.heap.size, 0, none⟩) 0 0) 0 [] := (World.ownsRow_lit (e := 3) (size := 1) w1 #[] 0 (Nat.le_refl _) (by simp [maxLen]) (by simp)).kept hgr2 (.inr (by simp only [Value.ownBlock]; intro e; injection e with e; omega))
  have S2 := Lib.hid (And.intro hrd2 (And.intro (grown_trans (grown_of_below w.heap.size (below_alloc w1 (.cells #[] 3))) hgr2 (fun k e => by injection e with e; exact .inl e.symm)) hO2))
  clear hrd2 hgr2 hO2 hr1
  go_wp2_with fail
  go_loopw [6, 7] (fun v6 v7 wr => ∃ (k q g cp : Nat) (l : List Int), v7 = .int .i64 k ∧ l.length + k ≤ 4 ∧ q + 3 * k ≤ p' + 20 ∧ v6 = .slice (some ⟨g, 0, none⟩) l.length cp ∧ wr.ownsRow w1.heap.size 3 1 (.slice (some ⟨g, 0, none⟩) l.length cp) l.length (l.map (.int .i64)) ∧ w1.grownBy wr (some w.heap.size) ∧ Rd wr w.heap.size (.slice A cl.length cap) cl q) (fun _ v7 _ => (intOf v7).toNat)
  case atStart =>
    obtain ⟨k, rfl⟩ := Int.eq_ofNat_of_zero_le hr0
    exact ⟨k, p' + 1, w1.heap.size, 0, [], rfl, by simp; omega, by omega, rfl, S2.out.2.2, S2.out.2.1, S2.out.1⟩
  case round =>
    obtain ⟨k, q, g, cp, l, rfl, hlk, hqk, rfl, hown, hgr, hrd⟩ := hrel
    clear S2
    cases k with
    | zero =>
      have hn2 := HS.out.1.picked hrd hgr
      have SF := Lib.hid (And.intro hn2 (And.intro (Vals.of_own hown) (below_of_grown HS.out.2 hgr (Nat.le_refl _))))
      have e0 : ((0 : Nat) : Int) = 0 := rfl
      rw [e0]
      clear hn2 hown hgr hrd e0
      go_wp2_with fail
      go_ret2
      exact ⟨_, ns, kv, _, l, rfl, SF.out.1.nodes, SF.out.1.small, SF.out.2.1, by omega, SF.out.2.2⟩
    | succ k =>
      have S := Lib.hid (And.intro hown (And.intro hgr hrd))
      have hgs := hgr.size
      clear hown hgr hrd
      go_wp2_with fail
      refine (rdIndex_any _ w.heap.size _ cl q ns.length S.out.2.2 (by omega) (by omega)).mono ?_
      rintro e w3 ⟨x, q3, rfl, hq3, hrd3, hgr3⟩
      have hown3 := S.out.1.kept hgr3 (.inr (own_ne S.out.1 S.out.2.2.blk (by decide)))
      have hG3 := grown_trans S.out.2.1 hgr3 (fun k e => by injection e with e; exact .inl e.symm)
      have S3 := Lib.hid (And.intro hG3 hrd3)
      have hs3 := hG3.size
      clear hrd3 hgr3 hG3
      go_wp2_with (at_builtin; refine wpList_push rfl _ _ _ rfl elemInts rfl hown3 rfl rfl rfl (by simp [Value.oneCell']) (by omega) (by omega) ?_; intro g' cp' w4 hown4 hbel4 hgr4 hlt4 hat4)
      go_roundw
      case rel =>
        have hbase : ∀ k, (Value.slice (some ⟨g, 0, none⟩) l.length cp).ownBlock = some k → w1.heap.size ≤ k := fun k hk => (hown3.lt k hk).1
        exact ⟨k, q3, g', cp', l ++ [x], by go_num, by simp; omega, by omega, by simp, by simpa using hown4, grown_trans S3.out.1 hgr4 (fun k e => .inr (hbase k e)), Rd.far HS.out.1.rd S3.out.2 hgr4 hbase⟩
      case measure => simp [intOf]
end Go.Proofs.Ytlobmpfgimdpgaa
