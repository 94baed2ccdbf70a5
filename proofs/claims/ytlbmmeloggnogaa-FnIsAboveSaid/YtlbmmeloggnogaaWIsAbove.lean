/-
  The walks of the laws FnIsAbove and FnIsBeside: they return true.
  Conditions: none but that the bytes are bytes.
-/
import Derived.Test.YtlbmmeloggnogaaDrawIsValue
import Derived.Test.YtlbmmeloggnogaaBeside
import Derived.Test.YtlbmmeloggnogaaPlain2
import Derived.Test.YtlbmmeloggnogaaImplIs
import Derived.Test.YtlbmmeloggnogaaLarge
namespace Go.Proofs.Ytlbmmeloggnogaa
open Go.RowKit Go.Lib

/-- Nodes of which there are few, with few kids. -/
structure Few (ns : List Nd) : Prop where
  len : ns.length ≤ 1048576
  kids : ∀ nd ∈ ns, nd.kids.length ≤ 1048576
theorem Few.len' {ns : List Nd} (h : Few ns) : ns.length ≤ 68719476736 := by have := h.len; omega
theorem Few.kids' {ns : List Nd} (h : Few ns) : ∀ nd ∈ ns, nd.kids.length ≤ 68719476736 := fun nd hnd => by have := h.kids nd hnd; omega
theorem Few.drawn {ns : List Nd} (h : Drawn8 ns) : Few ns := ⟨by have := h.len; omega, fun nd hnd => by have := h.kids nd hnd; omega⟩
theorem Few.cut {ns : List Nd} (h : Drawn8 ns) : Few (cutN ns) := by
  refine ⟨by rw [cutN_length]; have := h.len; omega, fun nd hnd => ?_⟩
  obtain ⟨x, hx, rfl⟩ := List.mem_map.1 hnd
  have h1 := flat_le (cutKid ns.length x.kind) (fun y => cutKid_one _ _ y) x.kids
  have h2 := h.kids x hx
  show (x.kids.flatMap (cutKid ns.length x.kind)).length ≤ 1048576
  omega
/-- Few nodes by numbers. -/
def Fewer (n k : Nat) (ns : List Nd) : Prop := ns.length ≤ n ∧ ∀ nd ∈ ns, nd.kids.length ≤ k
theorem Fewer.cut {n k : Nat} {ns : List Nd} (h : Fewer n k ns) : Fewer n k (cutN ns) := by
  refine ⟨by rw [cutN_length]; exact h.1, fun nd hnd => ?_⟩
  obtain ⟨x, hx, rfl⟩ := List.mem_map.1 hnd
  have h1 := flat_le (cutKid ns.length x.kind) (fun y => cutKid_one _ _ y) x.kids
  have h2 := h.2 x hx
  show (x.kids.flatMap (cutKid ns.length x.kind)).length ≤ k
  omega
theorem Fewer.drawn {ns : List Nd} (h : Drawn8 ns) : Fewer 8 3 ns := ⟨h.len, h.kids⟩
theorem Fewer.above {n k : Nat} {ns : List Nd} (h : Fewer n k ns) (hk : 1 ≤ k) (kind : ByteArray) : Fewer (n + 1) k (aboveN kind ns []) := by
  refine ⟨by simp [aboveN]; exact h.1, fun nd hnd => ?_⟩
  rcases List.mem_cons.1 hnd with rfl | hnd
  · exact hk
  · obtain ⟨x, hx, rfl⟩ := List.mem_map.1 hnd
    have h1 := flat_le (upKid 1) (fun y => upKid_one _ y) x.kids
    have h2 := h.2 x hx
    show (x.kids.flatMap (upKid 1)).length ≤ k
    omega
theorem Fewer.beside {n m k : Nat} {a b : List Nd} (ha : Fewer n k a) (hb : Fewer m k b) (hk : 2 ≤ k) (hc : Cutted a) : Fewer (1 + n + m) k (besideN a b) := by
  refine ⟨by rw [beside_length a b hc]; have := ha.1; have := hb.1; omega, fun nd hnd => ?_⟩
  rw [beside_eq hc] at hnd
  rcases List.mem_append.1 hnd with hnd | hnd
  · rw [List.mem_singleton] at hnd
    subst hnd
    show (if a.length = 0 then [0, 1] else [1, 1 + (a.length : Int)]).length ≤ k
    split <;> simpa using hk
  · rcases List.mem_append.1 hnd with hnd | hnd
    · obtain ⟨x, hx, rfl⟩ := List.mem_map.1 hnd
      have h1 := flat_le (upKid 1) (fun y => upKid_one _ y) x.kids
      have h2 := ha.2 x hx
      show (x.kids.flatMap (upKid 1)).length ≤ k
      omega
    · obtain ⟨x, hx, rfl⟩ := List.mem_map.1 hnd
      have h1 := flat_le (upKid (1 + (a.length : Int))) (fun y => upKid_one _ y) x.kids
      have h2 := hb.2 x hx
      show (x.kids.flatMap (upKid (1 + (a.length : Int)))).length ≤ k
      omega
theorem Fewer.few {n k : Nat} {ns : List Nd} (h : Fewer n k ns) (hn : n ≤ 1048576) (hk : k ≤ 1048576) : Few ns := ⟨Nat.le_trans h.1 hn, fun nd hnd => Nat.le_trans (h.2 nd hnd) hk⟩
theorem Fewer.l64 {n k : Nat} {ns : List Nd} (h : Fewer n k ns) (hn : n ≤ 1048576) : ns.length * 64 ≤ 140737488351232 := by have := h.1; omega

/-- impl.IsValue over few nodes. -/
theorem isV {v : Value} {ns : List Nd} {kv : Nat → Value} (key : Int) {w : World} (h : Nodes w v ns kv) (f : Few ns) :
    Calls Try.prog 16 #[v, .int .i64 key] w fun e w' => e = .returned (.bool ((rootTree ns).any (hitVal ns key))) ∧ Below w.heap.size w w' :=
  implIsValue v ns kv key w h f.len' f.kids'

theorem above_zero_hit {ns : List Nd} (h : Cutted ns) (hl : ns.length ≤ 1048576) : isThere (aboveN kWrap ns []) 0 = true ∧ nodeHit (aboveN kWrap ns []) 0 = true := by
  have hr := above_root h hl .wrap (by simp)
  simp only [K8.word] at hr
  refine ⟨by rw [hr.1]; simp, ?_⟩
  unfold nodeHit
  have hn : (aboveN kWrap ns [])[0]? = some ⟨kWrap, 9, kAbove, [1]⟩ := rfl
  rw [hn]
  simp only
  rw [if_neg (by decide), hr.2.2, if_pos (by simp)]
  simp

set_option maxRecDepth 100000 in
set_option maxHeartbeats 8000000 in
theorem wFnIsAbove (w : World) (cv : Value) (cl : List Int) (hv : Vals w cv (cl.map (.int .u8))) (hr : ∀ c ∈ cl, 0 ≤ c ∧ c ≤ 255) :
    Calls Try.prog 9 #[cv] w fun e w' => e = .returned (.bool true) ∧ Below w.heap.size w w' := by
  obtain ⟨A, cap, rfl, hlc, hcm⟩ := hv.form
  simp only [List.length_map] at *
  have HV := Lib.hid hv
  have HR := Lib.hid hr
  clear hv hr
  by_cases hbig : 1048576 < cl.length
  · go_enter Try.func9, Try.ntmps9
    go_wp2_with fail
    refine (large_any _ _ _ _).mono ?_
    rintro e w1 ⟨rfl, rfl⟩
    go_wp2_with fail
    go_ret
    exact ⟨rfl, Below.refl _ _⟩
  · have hd : decide (1048576 < cl.length) = false := by simpa using hbig
    go_enter Try.func9, Try.ntmps9
    go_wp2_with fail
    refine (large_any _ _ _ _).mono ?_
    rintro e w1 ⟨rfl, rfl⟩
    rw [hd]
    clear hd
    go_wp2_with fail
    refine (drawIsValue_any w _ cl HV.out HR.out (by omega)).mono ?_
    rintro e w1 ⟨v1, ns, kv1, key, rfl, hk9, hn1, hd8, hb⟩
    have hB1 := hb
    clear hb
    obtain ⟨N1A, N1c, rfl, _, N1m⟩ := hn1.form
    simp only [maxLen] at N1m
    have N1 := Lib.hid hn1
    clear hn1
    have HF := Lib.hid (Fewer.drawn hd8)
    clear hd8
    go_wp2_with fail
    refine (implNodes_any _ ns kv1 _ N1.out (HF.out.l64 (by omega))).mono ?_
    rintro e w2 ⟨v2, rfl, hn2, hb⟩
    have hB2 := below_after hB1 hb
    clear hb
    obtain ⟨N2A, N2c, rfl, _, N2m⟩ := hn2.form
    simp only [maxLen] at N2m
    have N2 := Lib.hid hn2
    clear hn2
    go_wp2_with fail
    refine (cut_any _ ns kv1 _ N2.out (HF.out.few (by omega) (by omega)).len (HF.out.few (by omega) (by omega)).kids).mono ?_
    rintro e w3 ⟨v3, kv3, rfl, hn3, hb⟩
    have hB3 := below_after hB2 hb
    have hn3' := hn3.nodes
    clear hn3
    clear hb
    obtain ⟨N3A, N3c, rfl, _, N3m⟩ := hn3'.form
    simp only [maxLen] at N3m
    have N3 := Lib.hid hn3'
    clear hn3'
    have HC := Lib.hid (And.intro (cutN_cutted ns) HF.out.cut)
    clear HF N1 N2
    generalize cutN ns = ms at *
    have HFM := Lib.hid (HC.out.2.few (by omega) (by omega))
    have hlm := HFM.out.len
    have HX := Lib.hid (show ∀ k : K8, (k = .wrap ∨ k = .many ∨ k = .join ∨ k = .acts) → (rootTree (aboveN k.word ms [])).any (hitVal (aboveN k.word ms []) key) = (rootTree ms).any (hitVal ms key) from fun k hk => is_above HC.out.1 HFM.out.len k hk key)
    have HFA := Lib.hid (show ∀ kind, Few (aboveN kind ms []) from fun kind => (HC.out.2.above (by omega) kind).few (by omega) (by omega))
    have hC3 : Below w3.heap.size w3 w3 := Below.refl _ _
    go_wp2_with fail
    have hks : Vals (w3.alloc (.cells #[.string kWrap, .string kMany, .string kJoin, .string kActs] 9)) (.slice (some ⟨w3.heap.size, 0, none⟩) 4 4) [.string kWrap, .string kMany, .string kJoin, .string kActs] := Vals.lit w3 #[.string kWrap, .string kMany, .string kJoin, .string kActs] 9 4 rfl (by omega)
    have HKS := Lib.hid hks
    have hBL : Below w3.heap.size w3 (w3.alloc (.cells #[.string kWrap, .string kMany, .string kJoin, .string kActs] 9)) := below_alloc _ _
    have HBL := Lib.hid hBL
    clear hks hBL
    simp only [kWrap, kMany, kJoin, kActs] at HKS HBL
    generalize (w3.alloc (.cells #[.string { data := #[119, 114, 97, 112] }, .string { data := #[109, 97, 110, 121] }, .string { data := #[106, 111, 105, 110] }, .string { data := #[97, 99, 116, 115] }] 9)) = wl at *
    go_loopw [20] (fun v20 wr => ∃ c : Nat, c ≤ 4 ∧ v20 = .int .i64 c ∧ Below wl.heap.size wl wr) (fun v20 _ => 4 - (intOf v20).toNat)
    case atStart => exact ⟨0, Nat.zero_le _, rfl, Below.refl _ _⟩
    case round =>
      obtain ⟨c, hc, rfl, hbel⟩ := hrel
      have hE : Below w3.heap.size w3 wr := below_after HBL.out hbel
      by_cases hlt : c < 4
      · have hkind : ∃ k : K8, (k = .wrap ∨ k = .many ∨ k = .join ∨ k = .acts) ∧ ([Value.string { data := #[119, 114, 97, 112] }, Value.string { data := #[109, 97, 110, 121] }, Value.string { data := #[106, 111, 105, 110] }, Value.string { data := #[97, 99, 116, 115] }] : List Value)[c]? = some (.string k.word) := by
          rcases (show c = 0 ∨ c = 1 ∨ c = 2 ∨ c = 3 by omega) with rfl | rfl | rfl | rfl
          · exact ⟨.wrap, by simp, rfl⟩
          · exact ⟨.many, by simp, rfl⟩
          · exact ⟨.join, by simp, rfl⟩
          · exact ⟨.acts, by simp, rfl⟩
        obtain ⟨k, hk, hget⟩ := hkind
        obtain ⟨b, off, hbo, c0⟩ := (HKS.out.keep hbel).at hget
        injection hbo with hbo
        injection hbo with e1 e2
        subst e1 e2
        rw [Nat.zero_add] at c0
        have HXK := Lib.hid (HX.out k hk)
        clear hk hget
        generalize k.word = kw at *
        go_wp2_with fail
        refine (above_none kw _ ms kv3 wr (N3.out.keep hE) HFM.out.len HFM.out.kids).mono ?_
        rintro e wa ⟨va, kva, rfl, hna, hba⟩
        obtain ⟨AA, ca, rfl, _, _⟩ := hna.nodes.form
        have HNA := Lib.hid hna.nodes
        have hE2 := below_after hE hba
        have hL2 := below_after hbel hba
        clear hna hba
        go_wp2_with fail
        refine (isV key HNA.out (HFA.out kw)).mono ?_
        rintro e wb ⟨rfl, hbb⟩
        have hE3 := below_after hE2 hbb
        have hL3 := below_after hL2 hbb
        clear hbb
        rw [HXK.out]
        go_wp2_with fail
        refine (isV key (N3.out.keep hE3) HFM.out).mono ?_
        rintro e wc ⟨rfl, hbc⟩
        have hL4 := below_after hL3 hbc
        clear hbc
        generalize (rootTree ms).any (hitVal ms key) = bb at *
        cases bb
        all_goals
          go_wp2_with fail
          go_roundw
          case rel => exact ⟨c + 1, hlt, by go_num, hL4⟩
          case measure => simp [intOf]; omega
      · have hBf : Below w.heap.size w wr := below_after hB3 hE
        have hc4 : c = 4 := by omega
        clear hC3 hB3 hbel
        clear HX
        have HA9 := Lib.hid (show ∀ key, (rootTree (aboveN kAlike ms [])).any (hitVal (aboveN kAlike ms []) key) = (decide ((9 : Int) = key) || (rootTree ms).any (hitVal ms key)) from fun key => is_above_alike HC.out.1 HFM.out.len key)
        have HW0 := Lib.hid (above_zero_hit HC.out.1 HFM.out.len)
        subst hc4
        go_wp2_with fail
        refine (above_none kAlike _ ms kv3 wr (N3.out.keep hE) HFM.out.len HFM.out.kids).mono ?_
        rintro e x1 ⟨y1, ky1, rfl, hn1, hb⟩
        have hE1 := below_after hE hb
        have hF1 := below_after hBf hb
        obtain ⟨P1, q1, rfl, _, _⟩ := hn1.nodes.form
        have M1 := Lib.hid hn1.nodes
        clear hn1
        clear hb
        go_wp2_with fail
        refine (isV 9 M1.out (HFA.out kAlike)).mono ?_
        rintro e x2 ⟨rfl, hb⟩
        have hE2 := below_after hE1 hb
        have hF2 := below_after hF1 hb
        rw [HA9.out 9]
        simp only [decide_true, Bool.true_or]
        clear hb
        go_wp2_with fail
        refine (above_none kAlike _ ms kv3 x2 (N3.out.keep hE2) HFM.out.len HFM.out.kids).mono ?_
        rintro e x3 ⟨y3, ky3, rfl, hn3, hb⟩
        have hE3 := below_after hE2 hb
        have hF3 := below_after hF2 hb
        obtain ⟨P3, q3, rfl, _, _⟩ := hn3.nodes.form
        have M3 := Lib.hid hn3.nodes
        clear hn3
        clear hb
        go_wp2_with fail
        refine (isV key M3.out (HFA.out kAlike)).mono ?_
        rintro e x4 ⟨rfl, hb⟩
        have hE4 := below_after hE3 hb
        have hF4 := below_after hF3 hb
        rw [HA9.out key, decide_eq_false (fun e : (9 : Int) = key => hk9 e.symm), Bool.false_or]
        clear hb
        go_wp2_with fail
        refine (isV key (N3.out.keep hE4) HFM.out).mono ?_
        rintro e x5 ⟨rfl, hb⟩
        have hE5 := below_after hE4 hb
        have hF5 := below_after hF4 hb
        generalize (rootTree ms).any (hitVal ms key) = bb at *
        have hbb : (bb == bb) = true := by cases bb <;> rfl
        clear hb
        cases bb
        all_goals
          go_wp2_with fail
          refine (above_none kWrap _ ms kv3 x5 (N3.out.keep hE5) HFM.out.len HFM.out.kids).mono ?_
          rintro e x6 ⟨y6, ky6, rfl, hn6, hb⟩
          have hE6 := below_after hE5 hb
          have hF6 := below_after hF5 hb
          obtain ⟨P6, q6, rfl, _, _⟩ := hn6.nodes.form
          have M6 := Lib.hid hn6.nodes
          clear hn6
          clear hb
          go_wp2_with fail
          refine (implIsNode _ (aboveN kWrap ms []) ky6 0 ⟨kWrap, 9, kAbove, [1]⟩ .wrap x6 M6.out (HFA.out kWrap).len' (HFA.out kWrap).kids' HW0.out.1 rfl (by decide) (by decide)).mono ?_
          rintro e x7 ⟨rfl, hb⟩
          have hE7 := below_after hE6 hb
          have hF7 := below_after hF6 hb
          rw [HW0.out.2]
          clear hb
          go_wp2_with fail
          go_ret
          exact ⟨rfl, hF7⟩

end Go.Proofs.Ytlbmmeloggnogaa
