/-
  The contract of the reference's IsNode.
  Conditions: trees of at most 2^30 errors, and the index of a node.
-/
import Derived.Test.YtlbmmeloggnogaaSpecIs
import Derived.Deep.QuietTactic
import Derived.BigQuiet
import Derived.Deep.RegionWith
import Derived.Outline
namespace Go.Proofs.Ytlbmmeloggnogaa
open Go.RowKit Go.Lib

/-- Whether a node is found. -/
def specHit (ns : List Nd) (j : Nat) : Bool :=
  match ns[j]? with
  | none => false
  | some nd => if nd.kind = kValue then (rootTree ns).any (hitVal ns nd.key) else (rootTree ns).any fun i => decide (i = j)

set_option maxRecDepth 100000 in
set_option maxHeartbeats 2000000 in
theorem isNode_f (ns : List Nd) (NA : Option Addr) (nc : Nat) (kv : Nat → Value) (gi gk : Nat) (ks : Nat → Value) (hS : ∀ j, j < ns.length → treeLen ns j ≤ 1073741824) (j : Nat) (hj : j < ns.length) (w : World) (F : FVal w ns NA nc kv gi gk ks) :
    Calls Try.prog 25 #[.agg #[.slice NA ns.length nc, .slice (some ⟨gi, 0, none⟩) ns.length ns.length, .slice (some ⟨gk, 0, none⟩) ns.length ns.length], .int .i64 (j : Int)] w fun e w' => e = .returned (.bool (specHit ns j)) ∧ Below w.heap.size w w' := by
  have hn : ns[j]? = some ns[j] := List.getElem?_eq_getElem hj
  have hF1 := F.keep (below_alloc w (.cells #[.slice NA ns.length nc, .slice (some ⟨gi, 0, none⟩) ns.length ns.length, .slice (some ⟨gk, 0, none⟩) ns.length ns.length] 30))
  have hncm : nc ≤ 9223372036854775807 := by
    obtain ⟨_, c, e, _, h⟩ := F.nodes.form
    injection e with _ _ e
    subst e
    simpa [maxLen] using h
  obtain ⟨b, off, QA, qc, rfl, hkv, n0, n1, n2, n3, _, hq2⟩ := hF1.nodes.at hn
  clear hkv n2 n3
  have HP := Lib.hid (show specHit ns j = if ns[j].kind = kValue then (rootTree ns).any (hitVal ns ns[j].key) else (rootTree ns).any fun i => decide (i = j) by unfold specHit; rw [hn])
  have hlen := rootTree_le hS
  by_cases hk : ns[j].kind = kValue
  · have hp := HP.out
    rw [if_pos hk] at hp
    rw [hk] at n0
    have HC := Lib.hid (fun W (hW : Below (w.alloc (.cells #[.slice (some ⟨b, off, none⟩) ns.length nc, .slice (some ⟨gi, 0, none⟩) ns.length ns.length, .slice (some ⟨gk, 0, none⟩) ns.length ns.length] 30)).heap.size (w.alloc (.cells #[.slice (some ⟨b, off, none⟩) ns.length nc, .slice (some ⟨gi, 0, none⟩) ns.length ns.length, .slice (some ⟨gk, 0, none⟩) ns.length ns.length] 30)) W) => isValue_f ns _ nc kv gi gk ks hS ns[j].key W (hF1.keep hW))
    have HP := Lib.hid hp
    simp only [kValue] at n0
    clear hp hF1 hn hS hk F
    generalize ns[j].key = key at *
    go_enter Try.func25, Try.ntmps25
    go_wp2_with fail
    go_region_with (go_at_call 17; refine (HC.out _ (Below.refl _ _).drew).mono ?_; rintro e w1 ⟨rfl, hb1⟩)
    all_goals go_wp2_with fail
    all_goals (go_ret; exact ⟨by rw [HP.out]; rfl, below_after ((below_alloc w _).drew) hb1⟩)
  · have hp := HP.out
    rw [if_neg hk] at hp
    have t1 := toList_ne hk
    have HT := Lib.hid (tree_root ns _ nc kv gi gk ks hS _ hF1)
    have HP := Lib.hid hp
    have hw1 := below_alloc w (.cells #[.slice (some ⟨b, off, none⟩) ns.length nc, .slice (some ⟨gi, 0, none⟩) ns.length ns.length, .slice (some ⟨gk, 0, none⟩) ns.length ns.length] 30)
    clear hp hF1 hn hS hk F
    go_enter Try.func25, Try.ntmps25
    go_wp2_with fail
    refine HT.out.mono ?_
    rintro e w1 ⟨g1, cp1, rfl, hown1, hb1⟩
    have HR := Lib.hid (And.intro (Vals.of_own hown1) (below_after hw1 hb1))
    have hcp : (rootTree ns).length ≤ cp1 ∧ cp1 ≤ 9223372036854775807 := by
      have := (Vals.of_own hown1).len
      simp only [maxLen] at this
      exact this.2
    clear hown1 hb1 hw1 HT
    go_wp2_with fail
    go_loop [25] (fun v25 => ∃ c : Nat, c ≤ (rootTree ns).length ∧ v25 = .int .i64 c ∧ ((rootTree ns).take c).any (fun i => decide (i = j)) = false) (fun v25 => (rootTree ns).length - (intOf v25).toNat)
    case atStart => exact ⟨0, Nat.zero_le _, rfl, by simp⟩
    case round =>
      obtain ⟨c, hc, rfl, hno⟩ := hrel
      have HNO := Lib.hid hno
      clear hno
      by_cases hlt : c < (rootTree ns).length
      · obtain ⟨b2, off2, hbo, c0⟩ := HR.out.1.at (asInts_get hlt)
        injection hbo with hbo
        injection hbo with e1 e2
        subst e1 e2
        rw [Nat.zero_add] at c0
        have HS := Lib.hid (And.intro (any_take_succ (fun i => decide (i = j)) (rootTree ns) c hlt) (any_of_take (fun i => decide (i = j)) (rootTree ns) c hlt))
        generalize (rootTree ns)[c] = q at *
        by_cases hqj : q = j
        · have hd : ((q : Int) == (j : Int)) = true := by simp [hqj]
          have H2 := Lib.hid (HS.out.2 (by simp [hqj]))
          clear hqj
          go_wp2_with fail
          go_ret
          exact ⟨by rw [HP.out, H2.out]; rfl, HR.out.2⟩
        · have hd : ((q : Int) == (j : Int)) = false := by simp; omega
          have H1 := Lib.hid (show ((rootTree ns).take (c + 1)).any (fun i => decide (i = j)) = false by rw [HS.out.1, HNO.out]; simp [hqj])
          clear hqj
          go_wp2_with fail
          go_round
          case rel => exact ⟨c + 1, hlt, by go_num, H1.out⟩
          case measure => simp [intOf]; omega
      · obtain rfl : c = (rootTree ns).length := by omega
        have hno := HNO.out
        rw [List.take_length] at hno
        have HNO := Lib.hid hno
        clear hno
        go_wp2_with fail
        go_ret
        exact ⟨by rw [HP.out, HNO.out]; rfl, HR.out.2⟩
end Go.Proofs.Ytlbmmeloggnogaa
