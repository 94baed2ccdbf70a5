/-
  The walk of the law FnAsAbove: it returns true.
  Conditions: none but that the bytes are bytes.
-/
import Derived.Test.YtnekgmkonhclbaaDrawIsNil
import Derived.Test.YtnekgmkonhclbaaBeside
import Derived.Test.YtnekgmkonhclbaaPlainAs
import Derived.Test.YtnekgmkonhclbaaImplAs
import Derived.Test.YtnekgmkonhclbaaLarge
namespace Go.Proofs.Ytnekgmkonhclbaa
open Go.RowKit Go.Lib

/-- impl.AsValue over few nodes. -/
theorem asVf {v : Value} {ns : List Nd} {kv : Nat → Value} {w : World} (h : Nodes w v ns kv) (f : Few ns) :
    Calls Try.prog 14 #[v] w fun e w' => e = .returned (.tuple #[.int .i64 ((asKey ns).getD 0), .bool (asKey ns).isSome]) ∧ Below w.heap.size w w' :=
  implAsValue v ns kv w h f.len' f.kids'

set_option maxHeartbeats 1000000 in
theorem drawAsValue_any (w : World) (cv : Value) (cl : List Int) (hv : Vals w cv (cl.map (.int .u8))) (hr : ∀ c ∈ cl, 0 ≤ c ∧ c ≤ 255) (hs : cl.length ≤ 1048576) :
    Calls Try.prog 11 #[cv] w (DrewNodes w) := by
  have HD := Lib.hid (drawIsNil_any w cv cl hv hr hs)
  obtain ⟨A, cap, hcv, _, _⟩ := hv.form
  rw [List.length_map] at hcv
  subst hcv
  clear hv hr
  go_enter Try.func11, Try.ntmps11
  go_wp2_with fail
  refine HD.out.mono ?_
  rintro e w1 ⟨v, ns, kv, rfl, hn, hd, hb⟩
  have HS := Lib.hid (And.intro hn (And.intro hd hb))
  obtain ⟨B, capB, rfl, _, _⟩ := hn.form
  clear hn hd hb
  go_wp2_with fail
  go_ret
  exact ⟨_, ns, kv, rfl, HS.out.1, HS.out.2.1, HS.out.2.2⟩

set_option maxRecDepth 100000 in
set_option maxHeartbeats 8000000 in
theorem wFnAsAbove (w : World) (cv : Value) (cl : List Int) (hv : Vals w cv (cl.map (.int .u8))) (hr : ∀ c ∈ cl, 0 ≤ c ∧ c ≤ 255) :
    Calls Try.prog 7 #[cv] w fun e w' => e = .returned (.bool true) ∧ Below w.heap.size w w' := by
  obtain ⟨A, cap, rfl, hlc, hcm⟩ := hv.form
  simp only [List.length_map] at *
  have HV := Lib.hid hv
  have HR := Lib.hid hr
  clear hv hr
  by_cases hbig : 1048576 < cl.length
  · go_enter Try.func7, Try.ntmps7
    go_wp2_with fail
    refine (large_any _ _ _ _).mono ?_
    rintro e w1 ⟨rfl, rfl⟩
    go_wp2_with fail
    go_ret
    exact ⟨rfl, Below.refl _ _⟩
  · have hd : decide (1048576 < cl.length) = false := by simpa using hbig
    go_enter Try.func7, Try.ntmps7
    go_wp2_with fail
    refine (large_any _ _ _ _).mono ?_
    rintro e w1 ⟨rfl, rfl⟩
    rw [hd]
    clear hd
    go_wp2_with fail
    refine (drawAsValue_any w _ cl HV.out HR.out (by omega)).mono ?_
    rintro e w1 ⟨v1, ns, kv1, rfl, hn1, hd8, hb⟩
    have hB1 := hb
    clear hb
    obtain ⟨N1A, N1c, rfl, _, N1m⟩ := hn1.form
    simp only [maxLen] at N1m
    have N1 := Lib.hid hn1
    clear hn1
    have HF := Lib.hid (Fewer.drawn hd8)
    clear hd8
    go_wp2_with fail
    refine (implNodes_any _ ns kv1 _ N1.out (HF.out.l64 (by omega))).mono ?_
    rintro e w2 ⟨v2, rfl, hn2, hb⟩
    have hB2 := below_after hB1 hb
    clear hb
    obtain ⟨N2A, N2c, rfl, _, N2m⟩ := hn2.form
    simp only [maxLen] at N2m
    have N2 := Lib.hid hn2
    clear hn2
    go_wp2_with fail
    refine (cut_any _ ns kv1 _ N2.out (HF.out.few (by omega) (by omega)).len (HF.out.few (by omega) (by omega)).kids).mono ?_
    rintro e w3 ⟨v3, kv3, rfl, hn3, hb⟩
    have hB3 := below_after hB2 hb
    have hn3' := hn3.nodes
    clear hn3
    clear hb
    obtain ⟨N3A, N3c, rfl, _, N3m⟩ := hn3'.form
    simp only [maxLen] at N3m
    have N3 := Lib.hid hn3'
    clear hn3'
    have HC := Lib.hid (And.intro (cutN_cutted ns) HF.out.cut)
    clear HF N1 N2
    generalize cutN ns = ms at *
    have HFM := Lib.hid (HC.out.2.few (by omega) (by omega))
    have hlm := HFM.out.len
    have HX := Lib.hid (show ∀ k : K8, (k = .wrap ∨ k = .many ∨ k = .join ∨ k = .alike) → asKey (aboveN k.word ms []) = asKey ms from fun k hk => key_above HC.out.1 HFM.out.len k hk)
    have HFA := Lib.hid (show ∀ kind, Few (aboveN kind ms []) from fun kind => (HC.out.2.above (by omega) kind).few (by omega) (by omega))
    have hC3 : Below w3.heap.size w3 w3 := Below.refl _ _
    go_wp2_with fail
    refine (asVf N3.out HFM.out).mono ?_
    rintro e w4 ⟨rfl, hb⟩
    have hB4 := below_after hB3 hb
    have hC4 := below_after hC3 hb
    obtain ⟨z, hz⟩ : ∃ z, (asKey ms).getD 0 = z := ⟨_, rfl⟩
    obtain ⟨y, hy⟩ : ∃ y, (asKey ms).isSome = y := ⟨_, rfl⟩
    rw [hz, hy]
    have HZ := Lib.hid (And.intro hz hy)
    clear hz hy
    clear hb
    go_wp2_with fail
    have hks : Vals (w4.alloc (.cells #[.string kWrap, .string kMany, .string kJoin, .string kAlike] 9)) (.slice (some ⟨w4.heap.size, 0, none⟩) 4 4) [.string kWrap, .string kMany, .string kJoin, .string kAlike] := Vals.lit w4 #[.string kWrap, .string kMany, .string kJoin, .string kAlike] 9 4 rfl (by omega)
    have HKS := Lib.hid hks
    have hBL : Below w4.heap.size w4 (w4.alloc (.cells #[.string kWrap, .string kMany, .string kJoin, .string kAlike] 9)) := below_alloc _ _
    have HBL := Lib.hid hBL
    clear hks hBL
    simp only [kWrap, kMany, kJoin, kAlike] at HKS HBL
    generalize (w4.alloc (.cells #[.string { data := #[119, 114, 97, 112] }, .string { data := #[109, 97, 110, 121] }, .string { data := #[106, 111, 105, 110] }, .string { data := #[97, 108, 105, 107, 101] }] 9)) = wl at *
    go_loopw [27] (fun vi wr => ∃ c : Nat, c ≤ 4 ∧ vi = .int .i64 c ∧ Below wl.heap.size wl wr) (fun vi _ => 4 - (intOf vi).toNat)
    case atStart => exact ⟨0, Nat.zero_le _, rfl, Below.refl _ _⟩
    case round =>
      obtain ⟨c, hc, rfl, hbel⟩ := hrel
      have hE : Below w4.heap.size w4 wr := below_after HBL.out hbel
      have hD : Below w3.heap.size w3 wr := below_after hC4 hE
      by_cases hlt : c < 4
      · have hkind : ∃ k : K8, (k = .wrap ∨ k = .many ∨ k = .join ∨ k = .alike) ∧ ([Value.string { data := #[119, 114, 97, 112] }, Value.string { data := #[109, 97, 110, 121] }, Value.string { data := #[106, 111, 105, 110] }, Value.string { data := #[97, 108, 105, 107, 101] }] : List Value)[c]? = some (.string k.word) := by
          rcases (show c = 0 ∨ c = 1 ∨ c = 2 ∨ c = 3 by omega) with rfl | rfl | rfl | rfl
          · exact ⟨.wrap, by simp, rfl⟩
          · exact ⟨.many, by simp, rfl⟩
          · exact ⟨.join, by simp, rfl⟩
          · exact ⟨.alike, by simp, rfl⟩
        obtain ⟨k, hk, hget⟩ := hkind
        obtain ⟨b, off, hbo, c0⟩ := (HKS.out.keep hbel).at hget
        injection hbo with hbo
        injection hbo with e1 e2
        subst e1 e2
        rw [Nat.zero_add] at c0
        have HXK := Lib.hid (HX.out k hk)
        clear hk hget
        generalize k.word = kw at *
        go_wp2_with fail
        refine (above_none kw _ ms kv3 wr (N3.out.keep hD) HFM.out.len HFM.out.kids).mono ?_
        rintro e wa ⟨va, kva, rfl, hna, hba⟩
        obtain ⟨AA, ca, rfl, _, _⟩ := hna.nodes.form
        have HNA := Lib.hid hna.nodes
        have hL2 := below_after hbel hba
        clear hna hba
        go_wp2_with fail
        refine (asVf HNA.out (HFA.out kw)).mono ?_
        rintro e wb ⟨rfl, hbb⟩
        have hL3 := below_after hL2 hbb
        clear hbb
        rw [HXK.out, HZ.out.1, HZ.out.2]
        cases y
        all_goals
          go_wp2_with fail
          go_roundw
          case rel => exact ⟨c + 1, hlt, by go_num, hL3⟩
          case measure => simp [intOf]; omega
      · have hBf : Below w.heap.size w wr := below_after hB4 hE
        have hc4 : c = 4 := by omega
        clear hC4 hB4 hbel HX hE
        subst hc4
        go_wp2_with fail
        refine (above_none kActs _ ms kv3 wr (N3.out.keep hD) HFM.out.len HFM.out.kids).mono ?_
        rintro e x1 ⟨y1, ky1, rfl, hn1, hb⟩
        have hD1 := below_after hD hb
        have hF1 := below_after hBf hb
        obtain ⟨P1, q1, rfl, _, _⟩ := hn1.nodes.form
        have M1 := Lib.hid hn1.nodes
        clear hn1
        clear hb
        go_wp2_with fail
        refine (asVf M1.out (HFA.out kActs)).mono ?_
        rintro e x2 ⟨rfl, hb⟩
        have hD2 := below_after hD1 hb
        have hF2 := below_after hF1 hb
        rw [key_above_acts ms]
        simp only [Option.getD_some, Option.isSome_some]
        clear hb
        go_wp2_with fail
        refine (above_none kWrap _ ms kv3 x2 (N3.out.keep hD2) HFM.out.len HFM.out.kids).mono ?_
        rintro e x3 ⟨y3, ky3, rfl, hn3, hb⟩
        have hD3 := below_after hD2 hb
        have hF3 := below_after hF2 hb
        obtain ⟨P3, q3, rfl, _, _⟩ := hn3.nodes.form
        have M3 := Lib.hid hn3.nodes
        clear hn3
        clear hb
        go_wp2_with fail
        refine (implAsWrap _ _ _ _ M3.out (HFA.out kWrap).len' (HFA.out kWrap).kids').mono ?_
        rintro e x4 ⟨rfl, hb⟩
        have hD4 := below_after hD3 hb
        have hF4 := below_after hF3 hb
        rw [ix_above_wrap ms]
        simp only [Option.map_some, Option.getD_some, Option.isSome_some]
        clear hb
        go_wp2_with fail
        go_ret
        exact ⟨rfl, hF4⟩

end Go.Proofs.Ytnekgmkonhclbaa
