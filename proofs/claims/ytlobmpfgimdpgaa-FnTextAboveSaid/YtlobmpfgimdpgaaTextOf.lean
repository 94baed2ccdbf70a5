/-
  The contract of impl.TextOf.
  Conditions: at most 2^36 nodes, each with at most 2^36 kids; texts of at most 2^40 bytes.
-/
import Derived.Test.YtlobmpfgimdpgaaSays
import Derived.Test.YtlobmpfgimdpgaaUnwrap
namespace Go.Proofs.Ytlobmpfgimdpgaa
open Go.RowKit Go.Lib

/-- The text of the first node's error, empty where it is not there. -/
def rootText (ns : List Nd) : ByteArray := if isThere ns 0 then textOf ns 0 else ⟨#[]⟩

set_option maxRecDepth 100000 in
set_option maxHeartbeats 4000000 in
theorem implTextOf (v : Value) (ns : List Nd) (kv : Nat → Value) (w : World) (h : Nodes w v ns kv) (hn : ns.length ≤ 68719476736) (hk : ∀ nd ∈ ns, nd.kids.length ≤ 68719476736) (hsz : ∀ j, j < ns.length → (textOf ns j).size ≤ 1099511627776) :
    Calls Try.prog 13 #[v] w fun e w' => e = .returned (.tuple #[.string (rootText ns), .bool (isThere ns 0)]) ∧ Below w.heap.size w w' := by
  obtain ⟨A, cap, rfl, _, _⟩ := h.form
  have HM := Lib.hid (made_any _ ns kv w h hn hk)
  have HZ := Lib.hid (And.intro hk hsz)
  clear h hk hsz
  go_enter Try.func13, Try.ntmps13
  go_wp2_with fail
  refine HM.out.mono ?_
  rintro e w1 ⟨tv, adr, sl, base, rfl, hv, hl, _, hb1⟩
  obtain ⟨TA, tc, rfl, _, _⟩ := hv.form
  simp only [List.length_map, List.length_range] at *
  have hat := at_any _ _ 0 w1 hv
  rw [atIx_root] at hat
  have HA := Lib.hid hat
  have HL := Lib.hid (And.intro hl hv)
  clear hat hl hv HM
  go_wp2_with fail
  refine HA.out.mono ?_
  rintro e w2 ⟨rfl, rfl⟩
  cases hT : isThere ns 0 with
  | false =>
    rw [valOf_not hT]
    have HR := Lib.hid (show rootText ns = ⟨#[]⟩ by unfold rootText; rw [hT]; rfl)
    clear HL HA
    go_wp2_with fail
    go_ret2
    exact ⟨by rw [HR.out, hT]; rfl, hb1⟩
  | true =>
    obtain ⟨t, u, f, u', he, hm, hcf, hf⟩ := says_any HL.out.1 HZ.out.1 HZ.out.2 ns.length 0 (by omega) hT
    rw [he]
    have HR := Lib.hid (show rootText ns = textOf ns 0 by unfold rootText; rw [hT]; rfl)
    have HF := Lib.hid hf
    clear HL HA hf he
    go_wp2_with fail
    refine (HF.out _ (Below.refl _ _)).mono ?_
    rintro e w3 ⟨rfl, hb3⟩
    go_wp2_with fail
    go_ret2
    exact ⟨by rw [HR.out, hT]; rfl, hb1.trans (hb3.mono hb1.size)⟩
end Go.Proofs.Ytlobmpfgimdpgaa
