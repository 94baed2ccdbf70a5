/-
  The invariant of the region of FnJoinNil that draws its order, and how each operation keeps it.
  Conditions: none.
-/
import Derived.Test.YtgkhnccedejjnaaPadded
namespace Go.Proofs.Ytgkhnccedejjnaa
open Go.RowKit Go.Lib

/-- A function with another value at one place. -/
def put1 {α : Type} (f : Nat → α) (i : Nat) (x : α) : Nat → α := fun j => if j = i then x else f j
theorem put1_self {α : Type} (f : Nat → α) (i : Nat) {x : α} (h : f i = x) : put1 f i x = f := by
  funext j
  unfold put1
  split
  · rename_i e; rw [e, h]
  · rfl
theorem own_ne_new {w : World} {base : Nat} {e : TypeId} {n : Nat} {v : Value} {xs : List Value} (h : w.ownsRow base e 1 v n xs) : v.ownBlock = none ∨ v.ownBlock ≠ some w.heap.size := by
  cases hk : v.ownBlock with
  | none => exact .inl rfl
  | some k =>
    have := (h.lt k hk).2
    exact .inr (fun e => by injection e with e; omega)
theorem new_ne_own {w : World} {base : Nat} {e : TypeId} {n : Nat} {v : Value} {xs : List Value} (h : w.ownsRow base e 1 v n xs) : some w.heap.size ≠ v.ownBlock := by
  intro hk
  have := (h.lt _ hk.symm).2
  omega

/-- What is known of the slots and of memory, by which operations are done. -/
structure RI (w4 : World) (ts : List ByteArray) (pb : List Bool) (TV NV : Value) (M L : ByteArray) (Z : Bool) (f : Nat → Bool) (u : Nat → Value) (w : World) : Prop where
  bel : Below w4.heap.size w4 w
  d4 : f 4 = true → f 2 = true
  d15 : f 15 = true → f 13 = true
  m1 : f 1 = true → u 35 = TV
  m5 : f 5 = true → u 39 = TV
  m6 : f 6 = true → u 40 = .int .i64 (ts.length : Int)
  m7 : f 7 = true → u 41 = .int .i64 ((ts.length : Int) + 1)
  m9 : f 9 = true → u 43 = NV
  m10 : f 10 = true → u 44 = TV
  m11 : f 11 = true → u 45 = .int .i64 (ts.length : Int)
  s0 : f 0 = true → f 2 = false → w.ownsRow w4.heap.size 9 1 (u 34) 0 []
  s2 : f 2 = true → f 4 = false → w.ownsRow w4.heap.size 9 1 (u 36) ts.length (ts.map .string)
  s3 : f 3 = true → f 4 = false → w.ownsRow w4.heap.size 9 1 (u 37) 1 [.string M]
  ss : f 0 = true → f 2 = false → f 3 = true → f 4 = false → ((u 37).ownBlock = none ∨ (u 37).ownBlock ≠ (u 34).ownBlock)
  s4 : f 4 = true → w.ownsRow w4.heap.size 9 1 (u 38) (ts.length + 1) (ts.map .string ++ [.string M])
  b8 : f 8 = true → f 13 = false → w.ownsRow w4.heap.size 4 1 (u 42) 0 []
  b12 : f 12 = true → f 13 = false → w.ownsRow w4.heap.size 4 1 (u 46) ts.length (pb.map .bool)
  b13 : f 13 = true → f 15 = false → w.ownsRow w4.heap.size 4 1 (u 47) ts.length (pb.map .bool)
  b14 : f 14 = true → f 15 = false → w.ownsRow w4.heap.size 4 1 (u 48) 1 [.bool true]
  bb : f 8 = true → f 13 = false → f 14 = true → f 15 = false → ((u 48).ownBlock = none ∨ (u 48).ownBlock ≠ (u 42).ownBlock)
  b15 : f 15 = true → w.ownsRow w4.heap.size 4 1 (u 49) (ts.length + 1) (pb.map .bool ++ [.bool true])
  j16 : f 16 = true → u 50 = .tuple #[.string L, .bool Z]
  j17 : f 17 = true → u 33 = .tuple #[.string L, .bool Z]
  j18 : f 18 = true → u 51 = .string L
  j19 : f 19 = true → u 52 = .bool Z
  j20 : f 20 = true → u 10 = .string L
  j21 : f 21 = true → u 11 = .bool Z

theorem RI.keepB {w4 : World} {ts : List ByteArray} {pb : List Bool} {TV NV : Value} {M L : ByteArray} {Z : Bool} {f : Nat → Bool} {u : Nat → Value} {w : World} {w' : World} (h : RI w4 ts pb TV NV M L Z f u w) (hb : Below w.heap.size w w') : RI w4 ts pb TV NV M L Z f u w' :=
  ⟨(below_after h.bel hb), h.d4, h.d15, h.m1, h.m5, h.m6, h.m7, h.m9, h.m10, h.m11, (fun a0 a1 => own_below (h.s0 a0 a1) hb), (fun a0 a1 => own_below (h.s2 a0 a1) hb), (fun a0 a1 => own_below (h.s3 a0 a1) hb), h.ss, (fun a0 => own_below (h.s4 a0) hb), (fun a0 a1 => own_below (h.b8 a0 a1) hb), (fun a0 a1 => own_below (h.b12 a0 a1) hb), (fun a0 a1 => own_below (h.b13 a0 a1) hb), (fun a0 a1 => own_below (h.b14 a0 a1) hb), h.bb, (fun a0 => own_below (h.b15 a0) hb), h.j16, h.j17, h.j18, h.j19, h.j20, h.j21⟩
theorem RI.same {w4 : World} {ts : List ByteArray} {pb : List Bool} {TV NV : Value} {M L : ByteArray} {Z : Bool} {f : Nat → Bool} {u : Nat → Value} {w : World} (h : RI w4 ts pb TV NV M L Z f u w) (k : Nat) {x : Value} (hx : u k = x) : RI w4 ts pb TV NV M L Z f (put1 u k x) w := by rw [put1_self u k hx]; exact h
theorem RI.start {w4 : World} {ts : List ByteArray} {pb : List Bool} {TV NV : Value} {M L : ByteArray} {Z : Bool}  (u : Nat → Value) (w : World) (hb : Below w4.heap.size w4 w) : RI w4 ts pb TV NV M L Z (fun _ => false) u w := by
  refine ⟨hb, ?_, ?_, ?_, ?_, ?_, ?_, ?_, ?_, ?_, ?_, ?_, ?_, ?_, ?_, ?_, ?_, ?_, ?_, ?_, ?_, ?_, ?_, ?_, ?_, ?_, ?_⟩ <;> intro h <;> cases h
theorem RI.op1 {w4 : World} {ts : List ByteArray} {pb : List Bool} {TV NV : Value} {M L : ByteArray} {Z : Bool} {f : Nat → Bool} {u : Nat → Value} {w : World} (h : RI w4 ts pb TV NV M L Z f u w) : RI w4 ts pb TV NV M L Z (put1 f 1 true) (put1 u 35 (TV)) w :=
  ⟨h.bel, h.d4, h.d15, (fun _ => rfl), h.m5, h.m6, h.m7, h.m9, h.m10, h.m11, h.s0, h.s2, h.s3, h.ss, h.s4, h.b8, h.b12, h.b13, h.b14, h.bb, h.b15, h.j16, h.j17, h.j18, h.j19, h.j20, h.j21⟩
theorem RI.op5 {w4 : World} {ts : List ByteArray} {pb : List Bool} {TV NV : Value} {M L : ByteArray} {Z : Bool} {f : Nat → Bool} {u : Nat → Value} {w : World} (h : RI w4 ts pb TV NV M L Z f u w) : RI w4 ts pb TV NV M L Z (put1 f 5 true) (put1 u 39 (TV)) w :=
  ⟨h.bel, h.d4, h.d15, h.m1, (fun _ => rfl), h.m6, h.m7, h.m9, h.m10, h.m11, h.s0, h.s2, h.s3, h.ss, h.s4, h.b8, h.b12, h.b13, h.b14, h.bb, h.b15, h.j16, h.j17, h.j18, h.j19, h.j20, h.j21⟩
theorem RI.op6 {w4 : World} {ts : List ByteArray} {pb : List Bool} {TV NV : Value} {M L : ByteArray} {Z : Bool} {f : Nat → Bool} {u : Nat → Value} {w : World} (h : RI w4 ts pb TV NV M L Z f u w) : RI w4 ts pb TV NV M L Z (put1 f 6 true) (put1 u 40 (.int .i64 (ts.length : Int))) w :=
  ⟨h.bel, h.d4, h.d15, h.m1, h.m5, (fun _ => rfl), h.m7, h.m9, h.m10, h.m11, h.s0, h.s2, h.s3, h.ss, h.s4, h.b8, h.b12, h.b13, h.b14, h.bb, h.b15, h.j16, h.j17, h.j18, h.j19, h.j20, h.j21⟩
theorem RI.op7 {w4 : World} {ts : List ByteArray} {pb : List Bool} {TV NV : Value} {M L : ByteArray} {Z : Bool} {f : Nat → Bool} {u : Nat → Value} {w : World} (h : RI w4 ts pb TV NV M L Z f u w) : RI w4 ts pb TV NV M L Z (put1 f 7 true) (put1 u 41 (.int .i64 ((ts.length : Int) + 1))) w :=
  ⟨h.bel, h.d4, h.d15, h.m1, h.m5, h.m6, (fun _ => rfl), h.m9, h.m10, h.m11, h.s0, h.s2, h.s3, h.ss, h.s4, h.b8, h.b12, h.b13, h.b14, h.bb, h.b15, h.j16, h.j17, h.j18, h.j19, h.j20, h.j21⟩
theorem RI.op9 {w4 : World} {ts : List ByteArray} {pb : List Bool} {TV NV : Value} {M L : ByteArray} {Z : Bool} {f : Nat → Bool} {u : Nat → Value} {w : World} (h : RI w4 ts pb TV NV M L Z f u w) : RI w4 ts pb TV NV M L Z (put1 f 9 true) (put1 u 43 (NV)) w :=
  ⟨h.bel, h.d4, h.d15, h.m1, h.m5, h.m6, h.m7, (fun _ => rfl), h.m10, h.m11, h.s0, h.s2, h.s3, h.ss, h.s4, h.b8, h.b12, h.b13, h.b14, h.bb, h.b15, h.j16, h.j17, h.j18, h.j19, h.j20, h.j21⟩
theorem RI.op10 {w4 : World} {ts : List ByteArray} {pb : List Bool} {TV NV : Value} {M L : ByteArray} {Z : Bool} {f : Nat → Bool} {u : Nat → Value} {w : World} (h : RI w4 ts pb TV NV M L Z f u w) : RI w4 ts pb TV NV M L Z (put1 f 10 true) (put1 u 44 (TV)) w :=
  ⟨h.bel, h.d4, h.d15, h.m1, h.m5, h.m6, h.m7, h.m9, (fun _ => rfl), h.m11, h.s0, h.s2, h.s3, h.ss, h.s4, h.b8, h.b12, h.b13, h.b14, h.bb, h.b15, h.j16, h.j17, h.j18, h.j19, h.j20, h.j21⟩
theorem RI.op11 {w4 : World} {ts : List ByteArray} {pb : List Bool} {TV NV : Value} {M L : ByteArray} {Z : Bool} {f : Nat → Bool} {u : Nat → Value} {w : World} (h : RI w4 ts pb TV NV M L Z f u w) : RI w4 ts pb TV NV M L Z (put1 f 11 true) (put1 u 45 (.int .i64 (ts.length : Int))) w :=
  ⟨h.bel, h.d4, h.d15, h.m1, h.m5, h.m6, h.m7, h.m9, h.m10, (fun _ => rfl), h.s0, h.s2, h.s3, h.ss, h.s4, h.b8, h.b12, h.b13, h.b14, h.bb, h.b15, h.j16, h.j17, h.j18, h.j19, h.j20, h.j21⟩
theorem RI.op17 {w4 : World} {ts : List ByteArray} {pb : List Bool} {TV NV : Value} {M L : ByteArray} {Z : Bool} {f : Nat → Bool} {u : Nat → Value} {w : World} (p : f 16 = true) (h : RI w4 ts pb TV NV M L Z f u w) : RI w4 ts pb TV NV M L Z (put1 f 17 true) (put1 u 33 (u 50)) w :=
  ⟨h.bel, h.d4, h.d15, h.m1, h.m5, h.m6, h.m7, h.m9, h.m10, h.m11, h.s0, h.s2, h.s3, h.ss, h.s4, h.b8, h.b12, h.b13, h.b14, h.bb, h.b15, h.j16, (fun _ => h.j16 p), h.j18, h.j19, h.j20, h.j21⟩
theorem RI.op18 {w4 : World} {ts : List ByteArray} {pb : List Bool} {TV NV : Value} {M L : ByteArray} {Z : Bool} {f : Nat → Bool} {u : Nat → Value} {w : World} (h : RI w4 ts pb TV NV M L Z f u w) : RI w4 ts pb TV NV M L Z (put1 f 18 true) (put1 u 51 (.string L)) w :=
  ⟨h.bel, h.d4, h.d15, h.m1, h.m5, h.m6, h.m7, h.m9, h.m10, h.m11, h.s0, h.s2, h.s3, h.ss, h.s4, h.b8, h.b12, h.b13, h.b14, h.bb, h.b15, h.j16, h.j17, (fun _ => rfl), h.j19, h.j20, h.j21⟩
theorem RI.op19 {w4 : World} {ts : List ByteArray} {pb : List Bool} {TV NV : Value} {M L : ByteArray} {Z : Bool} {f : Nat → Bool} {u : Nat → Value} {w : World} (h : RI w4 ts pb TV NV M L Z f u w) : RI w4 ts pb TV NV M L Z (put1 f 19 true) (put1 u 52 (.bool Z)) w :=
  ⟨h.bel, h.d4, h.d15, h.m1, h.m5, h.m6, h.m7, h.m9, h.m10, h.m11, h.s0, h.s2, h.s3, h.ss, h.s4, h.b8, h.b12, h.b13, h.b14, h.bb, h.b15, h.j16, h.j17, h.j18, (fun _ => rfl), h.j20, h.j21⟩
theorem RI.op20 {w4 : World} {ts : List ByteArray} {pb : List Bool} {TV NV : Value} {M L : ByteArray} {Z : Bool} {f : Nat → Bool} {u : Nat → Value} {w : World} (p : f 18 = true) (h : RI w4 ts pb TV NV M L Z f u w) : RI w4 ts pb TV NV M L Z (put1 f 20 true) (put1 u 10 (u 51)) w :=
  ⟨h.bel, h.d4, h.d15, h.m1, h.m5, h.m6, h.m7, h.m9, h.m10, h.m11, h.s0, h.s2, h.s3, h.ss, h.s4, h.b8, h.b12, h.b13, h.b14, h.bb, h.b15, h.j16, h.j17, h.j18, h.j19, (fun _ => h.j18 p), h.j21⟩
theorem RI.op21 {w4 : World} {ts : List ByteArray} {pb : List Bool} {TV NV : Value} {M L : ByteArray} {Z : Bool} {f : Nat → Bool} {u : Nat → Value} {w : World} (p : f 19 = true) (h : RI w4 ts pb TV NV M L Z f u w) : RI w4 ts pb TV NV M L Z (put1 f 21 true) (put1 u 11 (u 52)) w :=
  ⟨h.bel, h.d4, h.d15, h.m1, h.m5, h.m6, h.m7, h.m9, h.m10, h.m11, h.s0, h.s2, h.s3, h.ss, h.s4, h.b8, h.b12, h.b13, h.b14, h.bb, h.b15, h.j16, h.j17, h.j18, h.j19, h.j20, (fun _ => h.j19 p)⟩
theorem RI.op0 {w4 : World} {ts : List ByteArray} {pb : List Bool} {TV NV : Value} {M L : ByteArray} {Z : Bool} {f : Nat → Bool} {u : Nat → Value} {w : World} (h : RI w4 ts pb TV NV M L Z f u w) : RI w4 ts pb TV NV M L Z (put1 f 0 true) (put1 u 34 (.slice (some ⟨w.heap.size, 0, none⟩) 0 0)) (w.alloc (.cells #[] 9)) :=
  ⟨((h.keepB (below_alloc w (.cells #[] 9))).bel), ((h.keepB (below_alloc w (.cells #[] 9))).d4), ((h.keepB (below_alloc w (.cells #[] 9))).d15), ((h.keepB (below_alloc w (.cells #[] 9))).m1), ((h.keepB (below_alloc w (.cells #[] 9))).m5), ((h.keepB (below_alloc w (.cells #[] 9))).m6), ((h.keepB (below_alloc w (.cells #[] 9))).m7), ((h.keepB (below_alloc w (.cells #[] 9))).m9), ((h.keepB (below_alloc w (.cells #[] 9))).m10), ((h.keepB (below_alloc w (.cells #[] 9))).m11), (fun _ _ => World.ownsRow_lit (size := 1) w #[] 0 h.bel.size (by simp [maxLen]) (by simp)), ((h.keepB (below_alloc w (.cells #[] 9))).s2), ((h.keepB (below_alloc w (.cells #[] 9))).s3), (fun _ _ a2 a3 => own_ne_new (h.s3 a2 a3)), ((h.keepB (below_alloc w (.cells #[] 9))).s4), ((h.keepB (below_alloc w (.cells #[] 9))).b8), ((h.keepB (below_alloc w (.cells #[] 9))).b12), ((h.keepB (below_alloc w (.cells #[] 9))).b13), ((h.keepB (below_alloc w (.cells #[] 9))).b14), ((h.keepB (below_alloc w (.cells #[] 9))).bb), ((h.keepB (below_alloc w (.cells #[] 9))).b15), ((h.keepB (below_alloc w (.cells #[] 9))).j16), ((h.keepB (below_alloc w (.cells #[] 9))).j17), ((h.keepB (below_alloc w (.cells #[] 9))).j18), ((h.keepB (below_alloc w (.cells #[] 9))).j19), ((h.keepB (below_alloc w (.cells #[] 9))).j20), ((h.keepB (below_alloc w (.cells #[] 9))).j21)⟩
theorem RI.op3 {w4 : World} {ts : List ByteArray} {pb : List Bool} {TV NV : Value} {M L : ByteArray} {Z : Bool} {f : Nat → Bool} {u : Nat → Value} {w : World} (h : RI w4 ts pb TV NV M L Z f u w) : RI w4 ts pb TV NV M L Z (put1 f 3 true) (put1 u 37 (.slice (some ⟨w.heap.size, 0, none⟩) 1 1)) (w.alloc (.cells #[.string M] 9)) :=
  ⟨((h.keepB (below_alloc w (.cells #[.string M] 9))).bel), ((h.keepB (below_alloc w (.cells #[.string M] 9))).d4), ((h.keepB (below_alloc w (.cells #[.string M] 9))).d15), ((h.keepB (below_alloc w (.cells #[.string M] 9))).m1), ((h.keepB (below_alloc w (.cells #[.string M] 9))).m5), ((h.keepB (below_alloc w (.cells #[.string M] 9))).m6), ((h.keepB (below_alloc w (.cells #[.string M] 9))).m7), ((h.keepB (below_alloc w (.cells #[.string M] 9))).m9), ((h.keepB (below_alloc w (.cells #[.string M] 9))).m10), ((h.keepB (below_alloc w (.cells #[.string M] 9))).m11), ((h.keepB (below_alloc w (.cells #[.string M] 9))).s0), ((h.keepB (below_alloc w (.cells #[.string M] 9))).s2), (fun _ _ => World.ownsRow_lit (size := 1) w #[.string M] 1 h.bel.size (by simp [maxLen]) (by simp)), (fun a0 a1 _ _ => .inr (new_ne_own (h.s0 a0 a1))), ((h.keepB (below_alloc w (.cells #[.string M] 9))).s4), ((h.keepB (below_alloc w (.cells #[.string M] 9))).b8), ((h.keepB (below_alloc w (.cells #[.string M] 9))).b12), ((h.keepB (below_alloc w (.cells #[.string M] 9))).b13), ((h.keepB (below_alloc w (.cells #[.string M] 9))).b14), ((h.keepB (below_alloc w (.cells #[.string M] 9))).bb), ((h.keepB (below_alloc w (.cells #[.string M] 9))).b15), ((h.keepB (below_alloc w (.cells #[.string M] 9))).j16), ((h.keepB (below_alloc w (.cells #[.string M] 9))).j17), ((h.keepB (below_alloc w (.cells #[.string M] 9))).j18), ((h.keepB (below_alloc w (.cells #[.string M] 9))).j19), ((h.keepB (below_alloc w (.cells #[.string M] 9))).j20), ((h.keepB (below_alloc w (.cells #[.string M] 9))).j21)⟩
theorem RI.op14 {w4 : World} {ts : List ByteArray} {pb : List Bool} {TV NV : Value} {M L : ByteArray} {Z : Bool} {f : Nat → Bool} {u : Nat → Value} {w : World} (h : RI w4 ts pb TV NV M L Z f u w) : RI w4 ts pb TV NV M L Z (put1 f 14 true) (put1 u 48 (.slice (some ⟨w.heap.size, 0, none⟩) 1 1)) (w.alloc (.cells #[.bool true] 4)) :=
  ⟨((h.keepB (below_alloc w (.cells #[.bool true] 4))).bel), ((h.keepB (below_alloc w (.cells #[.bool true] 4))).d4), ((h.keepB (below_alloc w (.cells #[.bool true] 4))).d15), ((h.keepB (below_alloc w (.cells #[.bool true] 4))).m1), ((h.keepB (below_alloc w (.cells #[.bool true] 4))).m5), ((h.keepB (below_alloc w (.cells #[.bool true] 4))).m6), ((h.keepB (below_alloc w (.cells #[.bool true] 4))).m7), ((h.keepB (below_alloc w (.cells #[.bool true] 4))).m9), ((h.keepB (below_alloc w (.cells #[.bool true] 4))).m10), ((h.keepB (below_alloc w (.cells #[.bool true] 4))).m11), ((h.keepB (below_alloc w (.cells #[.bool true] 4))).s0), ((h.keepB (below_alloc w (.cells #[.bool true] 4))).s2), ((h.keepB (below_alloc w (.cells #[.bool true] 4))).s3), ((h.keepB (below_alloc w (.cells #[.bool true] 4))).ss), ((h.keepB (below_alloc w (.cells #[.bool true] 4))).s4), ((h.keepB (below_alloc w (.cells #[.bool true] 4))).b8), ((h.keepB (below_alloc w (.cells #[.bool true] 4))).b12), ((h.keepB (below_alloc w (.cells #[.bool true] 4))).b13), (fun _ _ => World.ownsRow_lit (size := 1) w #[.bool true] 1 h.bel.size (by simp [maxLen]) (by simp)), (fun a0 a1 _ _ => .inr (new_ne_own (h.b8 a0 a1))), ((h.keepB (below_alloc w (.cells #[.bool true] 4))).b15), ((h.keepB (below_alloc w (.cells #[.bool true] 4))).j16), ((h.keepB (below_alloc w (.cells #[.bool true] 4))).j17), ((h.keepB (below_alloc w (.cells #[.bool true] 4))).j18), ((h.keepB (below_alloc w (.cells #[.bool true] 4))).j19), ((h.keepB (below_alloc w (.cells #[.bool true] 4))).j20), ((h.keepB (below_alloc w (.cells #[.bool true] 4))).j21)⟩
theorem RI.op8 {w4 : World} {ts : List ByteArray} {pb : List Bool} {TV NV : Value} {M L : ByteArray} {Z : Bool} {f : Nat → Bool} {u : Nat → Value} {w : World} (h : RI w4 ts pb TV NV M L Z f u w) {C : Array Value} (hC : C.size = (ts.length + 1) * 1) (hl : ts.length ≤ 5) : RI w4 ts pb TV NV M L Z (put1 f 8 true) (put1 u 42 (.slice (some ⟨w.heap.size, 0, none⟩) 0 (ts.length + 1))) (w.alloc (.cells C 4)) :=
  ⟨((h.keepB (below_alloc w (.cells C 4))).bel), ((h.keepB (below_alloc w (.cells C 4))).d4), ((h.keepB (below_alloc w (.cells C 4))).d15), ((h.keepB (below_alloc w (.cells C 4))).m1), ((h.keepB (below_alloc w (.cells C 4))).m5), ((h.keepB (below_alloc w (.cells C 4))).m6), ((h.keepB (below_alloc w (.cells C 4))).m7), ((h.keepB (below_alloc w (.cells C 4))).m9), ((h.keepB (below_alloc w (.cells C 4))).m10), ((h.keepB (below_alloc w (.cells C 4))).m11), ((h.keepB (below_alloc w (.cells C 4))).s0), ((h.keepB (below_alloc w (.cells C 4))).s2), ((h.keepB (below_alloc w (.cells C 4))).s3), ((h.keepB (below_alloc w (.cells C 4))).ss), ((h.keepB (below_alloc w (.cells C 4))).s4), (fun _ _ => ⟨by simp, .inr ⟨w.heap.size, ts.length + 1, C, rfl, h.bel.size, heap_alloc_new w _, Nat.zero_le _, by simp only [maxLen]; omega, hC, by simp⟩⟩), ((h.keepB (below_alloc w (.cells C 4))).b12), ((h.keepB (below_alloc w (.cells C 4))).b13), ((h.keepB (below_alloc w (.cells C 4))).b14), (fun _ _ a2 a3 => own_ne_new (h.b14 a2 a3)), ((h.keepB (below_alloc w (.cells C 4))).b15), ((h.keepB (below_alloc w (.cells C 4))).j16), ((h.keepB (below_alloc w (.cells C 4))).j17), ((h.keepB (below_alloc w (.cells C 4))).j18), ((h.keepB (below_alloc w (.cells C 4))).j19), ((h.keepB (below_alloc w (.cells C 4))).j20), ((h.keepB (below_alloc w (.cells C 4))).j21)⟩
theorem RI.op12 {w4 : World} {ts : List ByteArray} {pb : List Bool} {TV NV : Value} {M L : ByteArray} {Z : Bool} {f : Nat → Bool} {u : Nat → Value} {w : World} {w' : World} {v : Value} (h : RI w4 ts pb TV NV M L Z f u w) (hb : Below w.heap.size w w') (ho : w'.ownsRow w.heap.size 4 1 v ts.length (pb.map .bool)) : RI w4 ts pb TV NV M L Z (put1 f 12 true) (put1 u 46 v) w' :=
  ⟨((h.keepB hb).bel), ((h.keepB hb).d4), ((h.keepB hb).d15), ((h.keepB hb).m1), ((h.keepB hb).m5), ((h.keepB hb).m6), ((h.keepB hb).m7), ((h.keepB hb).m9), ((h.keepB hb).m10), ((h.keepB hb).m11), ((h.keepB hb).s0), ((h.keepB hb).s2), ((h.keepB hb).s3), ((h.keepB hb).ss), ((h.keepB hb).s4), ((h.keepB hb).b8), (fun _ _ => World.ownsRow.mono_base ho h.bel.size), ((h.keepB hb).b13), ((h.keepB hb).b14), ((h.keepB hb).bb), ((h.keepB hb).b15), ((h.keepB hb).j16), ((h.keepB hb).j17), ((h.keepB hb).j18), ((h.keepB hb).j19), ((h.keepB hb).j20), ((h.keepB hb).j21)⟩
theorem RI.op16 {w4 : World} {ts : List ByteArray} {pb : List Bool} {TV NV : Value} {M L : ByteArray} {Z : Bool} {f : Nat → Bool} {u : Nat → Value} {w : World} {w' : World} (h : RI w4 ts pb TV NV M L Z f u w) (hb : Below w.heap.size w w') : RI w4 ts pb TV NV M L Z (put1 f 16 true) (put1 u 50 (.tuple #[.string L, .bool Z])) w' :=
  ⟨((h.keepB hb).bel), ((h.keepB hb).d4), ((h.keepB hb).d15), ((h.keepB hb).m1), ((h.keepB hb).m5), ((h.keepB hb).m6), ((h.keepB hb).m7), ((h.keepB hb).m9), ((h.keepB hb).m10), ((h.keepB hb).m11), ((h.keepB hb).s0), ((h.keepB hb).s2), ((h.keepB hb).s3), ((h.keepB hb).ss), ((h.keepB hb).s4), ((h.keepB hb).b8), ((h.keepB hb).b12), ((h.keepB hb).b13), ((h.keepB hb).b14), ((h.keepB hb).bb), ((h.keepB hb).b15), (fun _ => rfl), ((h.keepB hb).j17), ((h.keepB hb).j18), ((h.keepB hb).j19), ((h.keepB hb).j20), ((h.keepB hb).j21)⟩
theorem RI.op2 {w4 : World} {ts : List ByteArray} {pb : List Bool} {TV NV : Value} {M L : ByteArray} {Z : Bool} {f : Nat → Bool} {u : Nat → Value} {w : World} {w' : World} {v : Value} (h : RI w4 ts pb TV NV M L Z f u w) (p0 : f 0 = true) (q2 : f 2 = false) (hs : w.ownsRow w4.heap.size 9 1 (u 34) 0 []) (ho : w'.ownsRow w4.heap.size 9 1 v ts.length (ts.map .string)) (hg : w.grownBy w' (u 34).ownBlock) : RI w4 ts pb TV NV M L Z (put1 f 2 true) (put1 u 36 v) w' :=
  ⟨(h.bel.grown hg h.bel.size (fun k hk => (hs.lt k hk).1)), (fun _ => rfl), h.d15, h.m1, h.m5, h.m6, h.m7, h.m9, h.m10, h.m11, (fun _ e => Bool.noConfusion (show true = false from e)), (fun _ _ => ho), (fun a0 a1 => (h.s3 a0 a1).kept hg (h.ss p0 q2 a0 a1)), (fun _ e => Bool.noConfusion (show true = false from e)), (fun a0 => absurd (h.d4 a0) (by rw [q2]; decide)), (fun a0 a1 => (h.b8 a0 a1).kept hg (own_own_ne (h.b8 a0 a1) hs (by decide))), (fun a0 a1 => (h.b12 a0 a1).kept hg (own_own_ne (h.b12 a0 a1) hs (by decide))), (fun a0 a1 => (h.b13 a0 a1).kept hg (own_own_ne (h.b13 a0 a1) hs (by decide))), (fun a0 a1 => (h.b14 a0 a1).kept hg (own_own_ne (h.b14 a0 a1) hs (by decide))), h.bb, (fun a0 => (h.b15 a0).kept hg (own_own_ne (h.b15 a0) hs (by decide))), h.j16, h.j17, h.j18, h.j19, h.j20, h.j21⟩
theorem RI.op4 {w4 : World} {ts : List ByteArray} {pb : List Bool} {TV NV : Value} {M L : ByteArray} {Z : Bool} {f : Nat → Bool} {u : Nat → Value} {w : World} {w' : World} {v : Value} (h : RI w4 ts pb TV NV M L Z f u w) (p2 : f 2 = true) (hs : w.ownsRow w4.heap.size 9 1 (u 36) ts.length (ts.map .string)) (ho : w'.ownsRow w4.heap.size 9 1 v (ts.length + 1) (ts.map .string ++ [.string M])) (hg : w.grownBy w' (u 36).ownBlock) : RI w4 ts pb TV NV M L Z (put1 f 4 true) (put1 u 38 v) w' :=
  ⟨(h.bel.grown hg h.bel.size (fun k hk => (hs.lt k hk).1)), (fun _ => p2), h.d15, h.m1, h.m5, h.m6, h.m7, h.m9, h.m10, h.m11, (fun _ e => absurd p2 (by rw [show f 2 = false from e]; decide)), (fun _ e => Bool.noConfusion (show true = false from e)), (fun _ e => Bool.noConfusion (show true = false from e)), (fun _ _ _ e => Bool.noConfusion (show true = false from e)), (fun _ => ho), (fun a0 a1 => (h.b8 a0 a1).kept hg (own_own_ne (h.b8 a0 a1) hs (by decide))), (fun a0 a1 => (h.b12 a0 a1).kept hg (own_own_ne (h.b12 a0 a1) hs (by decide))), (fun a0 a1 => (h.b13 a0 a1).kept hg (own_own_ne (h.b13 a0 a1) hs (by decide))), (fun a0 a1 => (h.b14 a0 a1).kept hg (own_own_ne (h.b14 a0 a1) hs (by decide))), h.bb, (fun a0 => (h.b15 a0).kept hg (own_own_ne (h.b15 a0) hs (by decide))), h.j16, h.j17, h.j18, h.j19, h.j20, h.j21⟩
theorem RI.op13 {w4 : World} {ts : List ByteArray} {pb : List Bool} {TV NV : Value} {M L : ByteArray} {Z : Bool} {f : Nat → Bool} {u : Nat → Value} {w : World} {w' : World} {v : Value} (h : RI w4 ts pb TV NV M L Z f u w) (p8 : f 8 = true) (q13 : f 13 = false) (hs : w.ownsRow w4.heap.size 4 1 (u 42) 0 []) (ho : w'.ownsRow w4.heap.size 4 1 v ts.length (pb.map .bool)) (hg : w.grownBy w' (u 42).ownBlock) : RI w4 ts pb TV NV M L Z (put1 f 13 true) (put1 u 47 v) w' :=
  ⟨(h.bel.grown hg h.bel.size (fun k hk => (hs.lt k hk).1)), h.d4, (fun _ => rfl), h.m1, h.m5, h.m6, h.m7, h.m9, h.m10, h.m11, (fun a0 a1 => (h.s0 a0 a1).kept hg (own_own_ne (h.s0 a0 a1) hs (by decide))), (fun a0 a1 => (h.s2 a0 a1).kept hg (own_own_ne (h.s2 a0 a1) hs (by decide))), (fun a0 a1 => (h.s3 a0 a1).kept hg (own_own_ne (h.s3 a0 a1) hs (by decide))), h.ss, (fun a0 => (h.s4 a0).kept hg (own_own_ne (h.s4 a0) hs (by decide))), (fun _ e => Bool.noConfusion (show true = false from e)), (fun _ e => Bool.noConfusion (show true = false from e)), (fun _ _ => ho), (fun a0 a1 => (h.b14 a0 a1).kept hg (h.bb p8 q13 a0 a1)), (fun _ e => Bool.noConfusion (show true = false from e)), (fun a0 => absurd (h.d15 a0) (by rw [q13]; decide)), h.j16, h.j17, h.j18, h.j19, h.j20, h.j21⟩
theorem RI.op15 {w4 : World} {ts : List ByteArray} {pb : List Bool} {TV NV : Value} {M L : ByteArray} {Z : Bool} {f : Nat → Bool} {u : Nat → Value} {w : World} {w' : World} {v : Value} (h : RI w4 ts pb TV NV M L Z f u w) (p13 : f 13 = true) (hs : w.ownsRow w4.heap.size 4 1 (u 47) ts.length (pb.map .bool)) (ho : w'.ownsRow w4.heap.size 4 1 v (ts.length + 1) (pb.map .bool ++ [.bool true])) (hg : w.grownBy w' (u 47).ownBlock) : RI w4 ts pb TV NV M L Z (put1 f 15 true) (put1 u 49 v) w' :=
  ⟨(h.bel.grown hg h.bel.size (fun k hk => (hs.lt k hk).1)), h.d4, (fun _ => p13), h.m1, h.m5, h.m6, h.m7, h.m9, h.m10, h.m11, (fun a0 a1 => (h.s0 a0 a1).kept hg (own_own_ne (h.s0 a0 a1) hs (by decide))), (fun a0 a1 => (h.s2 a0 a1).kept hg (own_own_ne (h.s2 a0 a1) hs (by decide))), (fun a0 a1 => (h.s3 a0 a1).kept hg (own_own_ne (h.s3 a0 a1) hs (by decide))), h.ss, (fun a0 => (h.s4 a0).kept hg (own_own_ne (h.s4 a0) hs (by decide))), (fun _ e => absurd p13 (by rw [show f 13 = false from e]; decide)), (fun _ e => absurd p13 (by rw [show f 13 = false from e]; decide)), (fun _ e => Bool.noConfusion (show true = false from e)), (fun _ e => Bool.noConfusion (show true = false from e)), (fun _ _ _ e => Bool.noConfusion (show true = false from e)), (fun _ => ho), h.j16, h.j17, h.j18, h.j19, h.j20, h.j21⟩

theorem all_listed_at {md : Region.Mode} {ops : Array Oper} {listed : Array Bool} (hr : Region.ready md ops listed = []) (hs : listed.size = ops.size)
    (hcl : ((List.range ops.size).all fun i => ((ops[i]?).map fun o => o.after.all fun e => !Region.binds md e || decide (e.on < i)).getD false) = true) (i : Nat) (hlt : i < ops.size) (hbefore : ∀ j, j < i → listed.getD j false = true) : listed.getD i false = true := by
  cases h : listed.getD i false with
  | true => rfl
  | false =>
    exfalso
    have h0 : listed.getD i true = false := by
      have hl : i < listed.size := by omega
      simp only [Array.getD, hl, dif_pos] at h ⊢
      exact h
    have ho : ops[i]? = some ops[i] := Array.getElem?_eq_getElem hlt
    have hc := List.all_eq_true.1 hcl i (List.mem_range.2 hlt)
    rw [ho] at hc
    simp only [Option.map_some, Option.getD_some] at hc
    have hm : i ∈ Region.ready md ops listed := mem_ready.2 ⟨h0, ops[i], ho, fun e he hb => by
      have hall := Array.all_eq_true_iff_forall_mem.1 hc e he
      rw [hb] at hall
      exact hbefore _ (by simpa using hall)⟩
    rw [hr] at hm
    cases hm

/-- Where nothing is ready all is listed. -/
theorem all_listed {md : Region.Mode} {ops : Array Oper} {listed : Array Bool} (hr : Region.ready md ops listed = []) (hs : listed.size = ops.size)
    (hcl : ((List.range ops.size).all fun i => ((ops[i]?).map fun o => o.after.all fun e => !Region.binds md e || decide (e.on < i)).getD false) = true) :
    ∀ (m i : Nat), i ≤ m → i < ops.size → listed.getD i false = true := by
  intro m
  induction m with
  | zero =>
    intro i hi hlt
    exact all_listed_at hr hs hcl i hlt (fun j hj => by omega)
  | succ m ih =>
    intro i hi hlt
    exact all_listed_at hr hs hcl i hlt (fun j hj => ih j (by omega) (by omega))
theorem set_get {listed : Array Bool} {f : Nat → Bool} (i : Nat) (hi : i < listed.size) (hf : ∀ j, listed.getD j false = f j) : ∀ j, (listed.setIfInBounds i true).getD j false = put1 f i true j := by
  intro j
  unfold put1
  by_cases h : j = i
  · subst h
    rw [if_pos rfl]
    simp [Array.getD, hi]
  · rw [if_neg h, getD_set_ne false (fun e => h e.symm), hf]

end Go.Proofs.Ytgkhnccedejjnaa
