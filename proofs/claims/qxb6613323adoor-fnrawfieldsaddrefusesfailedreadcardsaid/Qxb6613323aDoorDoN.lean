/-
  The smaller functions of the two laws: zzb1StrBytes (7), the length test (5), ZZrawCount (9), ZZrawBytes (11), ZZrawField (12); a copy of an argument.
-/
import Derived.Test.Qxb6613323aDoorDoM
import Derived.WalkLawsBesides
namespace Go.Proofs.Qxb6613323aDoor.Do
open Go.ChangeShapes Go.WideShapes Go.ChangeAt Go.RowKit

set_option maxHeartbeats 1000000 in
theorem strbytes7 (s : ByteArray) (w : World) (hs : s.size ≤ 524288) :
    Calls Tryd.prog 7 #[.string s] w fun e w' => e = .returned (.slice (some ⟨w.heap.size, 0, none⟩) s.size s.size) ∧ Rd w' (some ⟨w.heap.size, 0, none⟩) (bl s) ∧ Below w.heap.size w w' := by
  obtain ⟨W1, hmk0, hF⟩ := fill_start w (bl s) s.size (by omega)
  have hmk := hmk0 (s.size : Int) rfl
  clear hmk0
  have F0 : Hid _ := hF
  have FIN : Hid (∀ wr, Fill w.heap.size w (bl s) s.size s.size wr → Rd wr (some ⟨w.heap.size, 0, none⟩) (bl s)) := fun wr h => .inr ⟨_, _, rfl, fun i hi => by rw [Nat.zero_add]; exact h.done i (by rw [bl_length] at hi; exact hi)⟩
  have HB : Hid (∀ k (h : k < s.size), bt (bl s) k = (s[k].toNat : Int)) := fun k h => bt_bl s k h
  clear hF
  go_enter Tryd.func7, Tryd.ntmps7
  go_wp2
  go_loopw [4] (fun i wr => ∃ k : Nat, k ≤ s.size ∧ i = .int .i64 k ∧ Fill w.heap.size w (bl s) s.size k wr) (fun i _ => s.size - (intOf i).toNat)
  case atStart => exact ⟨0, Nat.zero_le _, rfl, F0.out⟩
  case round =>
    obtain ⟨k, hk, rfl, hF⟩ := hrel
    by_cases hlt : k < s.size
    · obtain ⟨v, hcN⟩ := hF.there k (by omega)
      have hfN := hF.free k
      have HS : Hid _ := hF.set (by omega)
      rw [HB.out k hlt] at HS
      clear hF
      go_wp2_with fail
      go_roundw
      case rel => exact ⟨k + 1, by omega, by go_num, HS.out⟩
      case measure => simp [intOf]; omega
    · obtain rfl : k = s.size := by omega
      have HF : Hid _ := hF
      clear hF
      go_wp2_with fail
      go_ret
      exact ⟨rfl, FIN.out _ HF.out, HF.out.below⟩

theorem cat6n (a1 a2 : Option Addr) (n1 n2 c1 c2 : Nat) (l1 l2 : List Int) (w : World) (e1 : l1.length = n1) (e2 : l2.length = n2) (hl1 : n1 ≤ 524288) (hl2 : n2 ≤ 524288) (h1 : Rd w a1 l1) (h2 : Rd w a2 l2) :
    Calls Tryd.prog 6 #[.slice a1 n1 c1, .slice a2 n2 c2] w fun e w' => e = .returned (.slice (some ⟨w.heap.size, 0, none⟩) (n1 + n2) (n1 + n2)) ∧ Rd w' (some ⟨w.heap.size, 0, none⟩) (l1 ++ l2) ∧ Below w.heap.size w w' := by
  subst e1 e2
  exact cat6 a1 a2 c1 c2 l1 l2 w hl1 hl2 h1 h2

theorem eq10n (a1 a2 : Option Addr) (n1 n2 c1 c2 : Nat) (l : List Int) (w : World) (e1 : l.length = n1) (e2 : l.length = n2) (hl : n1 ≤ 1048576) (h1 : Rd w a1 l) (h2 : Rd w a2 l) :
    Calls Tryd.prog 10 #[.slice a1 n1 c1, .slice a2 n2 c2] w fun e w' => e = .returned (.bool true) ∧ ∃ k, w' = w.drewN k := by
  subst e1 e2
  exact eq10 a1 a2 c1 c2 l w hl h1 h2

/-- 'zzc := make([]byte, len(v)); copy(zzc, v)': the two run equations and what lies in the new row. -/
theorem copied (w : World) (x : Addr) (n c : Nat) (zs : List Int) (hn : n ≤ 65536) (hnz : n ≤ zs.length)
    (hcell : ∀ i, i < zs.length → w.cell? (x.add i) = some (.int .u8 (zs.getD i 0))) :
    ∃ W1 W2, (Instr.makeSlice 22 (.int .i64 (n : Int)) (.int .i64 (n : Int))).run Tryd.prog w = .ok (.slice (some ⟨w.heap.size, 0, none⟩) n n) W1 ∧
      (∀ ty, (Builtin.copy_ #[22, 22] ty #[.slice (some ⟨w.heap.size, 0, none⟩) n n, .slice (some x) n c]).run Tryd.prog W1 = .ok (goInt n) W2) ∧
      (∀ i, i < n → W2.cell? ⟨w.heap.size, i, none⟩ = some (.int .u8 (zs.getD i 0))) ∧ Below w.heap.size w W2 := by
  have h3 := info5
  cases hi : Tryd.prog.info? 5 with
  | none => rw [hi] at h3; cases h3
  | some i0 =>
    rw [hi] at h3
    simp only [Option.map_some, Option.some.injEq, Prod.mk.injEq] at h3
    obtain ⟨hz, hsz, hby⟩ := h3
    have hr := run_make (P := Tryd.prog) w 22 5 i0 _ Tryd.underlying22 hi hz .i64 .i64 (n : Int) (n : Int) (by omega) (Int.le_refl _) (by rw [hby]; omega) (by omega)
    simp only [Int.toNat_natCast, hsz, Nat.mul_one] at hr
    have hg : (w.alloc (.cells (madeCells (Value.int IntKind.u8 0).cells n) 5)).heap[w.heap.size]? = some (.cells (madeCells (Value.int IntKind.u8 0).cells n) 5 (0, 0)) := by
      show (w.heap.push _)[w.heap.size]? = _
      simp
    have hlen : ((zs.take n).map (Value.int .u8)).length = n := by simp; omega
    have hcp := fun ty => run_copy_row (P := Tryd.prog) (w.alloc (.cells (madeCells (Value.int IntKind.u8 0).cells n) 5)) 22 22 ty 5 w.heap.size 0 n n x n c _ 5 ((zs.take n).map (Value.int .u8)) Tryd.underlying22 (by rw [hi]; simp [hsz]) hg (by rw [hlen]; simp)
      (by
        intro j v hj
        have hjn : j < n := by
          have := (List.getElem?_eq_some_iff.1 hj).1
          omega
        have hc := hcell j (by omega)
        have hlt : (x.add j).block < w.heap.size := by
          by_cases hb : (x.add j).block < w.heap.size
          · exact hb
          · simp [World.cell?, Array.getElem?_eq_none (by omega : w.heap.size ≤ (x.add j).block)] at hc
        rw [World.cell?_of_block (w := w) (Below.heap_alloc _ _ _ hlt), hc]
        simp [List.getElem?_map, hjn] at hj
        obtain ⟨z, hz1, hz2⟩ := hj
        simp [hz1, hz2])
      (by rw [hlen, size_madeCells]; omega) (by
        intro v hv
        obtain ⟨z, _, rfl⟩ := List.mem_map.1 hv
        rfl)
    rw [hlen] at hcp
    refine ⟨_, _, hr, hcp, ?_, ?_⟩
    · intro i hin
      rw [World.cell?, setRow_heap _ _ _ _ _ _ hg]
      have hdrop : (madeCells (Value.int IntKind.u8 0).cells n).toList.drop (0 + n) = [] := by
        apply List.drop_eq_nil_of_le; simp [size_madeCells]
      rw [hdrop]
      have hz : i < zs.length := by omega
      simp [hin, hz]
    · exact below_setRow ((Below.refl _ _).alloc (Nat.le_refl _) _) (Nat.le_refl _) _


/-- the same, in this text's words. -/
theorem copiedRd (w : World) (b o n c : Nat) (l : List Int) (hn : n ≤ 65536) (hl : l.length = n) (hr : Rd w (some ⟨b, o, none⟩) l) :
    ∃ W1 W2, (Instr.makeSlice 22 (.int .i64 (n : Int)) (.int .i64 (n : Int))).run Tryd.prog w = .ok (.slice (some ⟨w.heap.size, 0, none⟩) n n) W1 ∧
      (∀ ty, (Builtin.copy_ #[22, 22] ty #[.slice (some ⟨w.heap.size, 0, none⟩) n n, .slice (some ⟨b, o, none⟩) n c]).run Tryd.prog W1 = .ok (goInt n) W2) ∧
      Rd W2 (some ⟨w.heap.size, 0, none⟩) l ∧ Below w.heap.size w W2 := by
  have hcell : ∀ i, i < l.length → w.cell? ((⟨b, o, none⟩ : Addr).add i) = some (.int .u8 (l.getD i 0)) := by
    intro i hi
    rcases hr with e | ⟨b', o', e, hc⟩
    · rw [e] at hi; cases hi
    · cases e; rw [Addr.add_lit]; exact hc i hi
  obtain ⟨W1, W2, h1, h2, h3, h4⟩ := copied w ⟨b, o, none⟩ n c l hn (by omega) hcell
  exact ⟨W1, W2, h1, h2, .inr ⟨_, _, rfl, fun i hi => by rw [Nat.zero_add]; exact h3 i (by omega)⟩, h4⟩

/-- the buffer's bytes are read through the slice that it holds. -/
theorem Sk.rd {w : World} {sb : Nat} {S : List Int} {fs : Value} {k : Nat} (h : Sk w sb S fs (some k)) : Rd w (some ⟨k, 0, none⟩) S := by
  obtain ⟨cap, cur, lr, a, hc, hs, h1, h2, ht, hg⟩ := h
  refine .inr ⟨_, _, rfl, fun i hi => ?_⟩
  have e : cur.toList[i]? = (U S)[i]? := by rw [← ht, List.getElem?_take_of_lt hi]
  rw [U_get S i hi] at e
  simp [World.cell?, hc]
  simpa using e

set_option maxHeartbeats 400000 in
theorem bytes19_nil {w : World} {sb : Nat} {fs : Value} (lr : Int) (h : Bf w sb (.slice none 0 0) lr fs) :
    Calls Tryd.prog 19 #[.pointer (some ⟨sb, 0, none⟩)] w fun e w' => e = .returned (.slice none 0 0) ∧ ∃ n, w' = w.drewN n := by
  have c0 := h.c0
  have c1 := h.c1
  clear h
  go_enter Tryd.func19, Tryd.ntmps19
  go_wp2_with fail
  go_quiet (fail)
  go_wp2_with fail
  go_ret
  exact ⟨rfl, _, rfl⟩

set_option maxHeartbeats 400000 in
theorem bytes19_row {w : World} {sb : Nat} {fs : Value} (k l c : Nat) (lr : Int) (h : Bf w sb (.slice (some ⟨k, 0, none⟩) l c) lr fs) (_hl : l ≤ c) (_hc : c ≤ maxLen) :
    Calls Tryd.prog 19 #[.pointer (some ⟨sb, 0, none⟩)] w fun e w' => e = .returned (.slice (some ⟨k, 0, none⟩) l c) ∧ ∃ n, w' = w.drewN n := by
  have c0 := h.c0
  have c1 := h.c1
  clear h
  unfold maxLen at _hc
  go_enter Tryd.func19, Tryd.ntmps19
  go_wp2_with fail
  go_quiet (fail)
  go_wp2_with fail
  go_ret
  exact ⟨rfl, _, rfl⟩

theorem bytes19 {w : World} {sb : Nat} {S : List Int} {fs : Value} {g : Option Nat} (h : Sk w sb S fs g) :
    Calls Tryd.prog 19 #[.pointer (some ⟨sb, 0, none⟩)] w fun e w' => ∃ a c, e = .returned (.slice a S.length c) ∧ Rd w a S ∧ ∃ n, w' = w.drewN n := by
  cases g with
  | none =>
    obtain ⟨rfl, lr, hb⟩ := h
    refine (bytes19_nil lr hb).mono ?_
    rintro e w' ⟨rfl, hn⟩
    exact ⟨none, 0, rfl, .inl rfl, hn⟩
  | some g =>
    have hr := h.rd
    obtain ⟨cap, cur, lr, hb, _, _, hl, hc, _⟩ := h
    refine (bytes19_row g S.length cap lr hb hl hc).mono ?_
    rintro e w' ⟨rfl, hn⟩
    exact ⟨_, cap, rfl, hr, hn⟩

theorem raw11 {w : World} {sb : Nat} {S : List Int} {fs : Value} {g : Option Nat} (h : Sk w sb S fs g) :
    Calls Tryd.prog 11 #[.pointer (some ⟨sb, 0, none⟩)] w fun e w' => ∃ a c, e = .returned (.slice a S.length c) ∧ Rd w a S ∧ ∃ n, w' = w.drewN n := by
  have C : Hid _ := bytes19 h
  clear h
  go_enter Tryd.func11, Tryd.ntmps11
  go_wp2_with fail
  refine Calls.mono C.out ?_
  rintro e w' ⟨a, c, rfl, hr, n, rfl⟩
  go_wp2_with fail
  go_ret
  exact ⟨a, c, rfl, hr, n, rfl⟩

/-- the fields' slice, where there are some. -/
theorem AD.slice {N sb : Nat} {w : World} {S : List Int} {g : Option Nat} {fs : Value} {n : Nat} {xs : List Value} (h : AD N w sb S g fs n xs) (hn : 0 < n) : ∃ fb cap, fs = .slice (some ⟨fb, 0, none⟩) n cap ∧ (∀ j, j < n * 4 → w.cell? ⟨fb, j, none⟩ = xs[j]?) ∧ n ≤ cap := by
  rcases h.own.2 with e | ⟨fb, cap, cur, e1, e2, e3, e4, e5, e6, e7⟩
  · omega
  · refine ⟨fb, cap, e1, fun j hj => ?_, e4⟩
    rw [← e7, List.getElem?_take_of_lt hj]
    simp [World.cell?, e3]

set_option maxHeartbeats 400000 in
theorem count9 {N sb : Nat} {w : World} {S : List Int} {g : Option Nat} {fs : Value} {xs : List Value} (h : AD N w sb S g fs 2 xs) :
    Calls Tryd.prog 9 #[.pointer (some ⟨sb, 0, none⟩)] w fun e w' => e = .returned (.int .i64 2) ∧ w = w' := by
  obtain ⟨fb, cap, e, _, _⟩ := h.slice (by omega)
  have c3 := h.sk.c3
  rw [e] at c3
  clear h e
  go_enter Tryd.func9, Tryd.ntmps9
  go_wp2
  go_ret
  exact ⟨rfl, rfl⟩

set_option maxHeartbeats 1000000 in
theorem field12_0 {N sb : Nat} {w : World} {S : List Int} {g : Option Nat} {fs : Value} {xs : List Value} (h : AD N w sb S g fs 2 xs) (a b c d : Int) (h0 : xs[0]? = some (.int .i64 a)) (h1 : xs[1]? = some (.int .i64 b)) (h2 : xs[2]? = some (.int .i64 c)) (h3 : xs[3]? = some (.int .i64 d)) :
    Calls Tryd.prog 12 #[.pointer (some ⟨sb, 0, none⟩), .int .i64 0] w fun e w' => e = .returned (.tuple #[.int .i64 a, .int .i64 b, .int .i64 c, .int .i64 d]) ∧ Below w.heap.size w w' := by
  obtain ⟨fb, cap, e, hc, _⟩ := h.slice (by omega)
  have c3 := h.sk.c3
  rw [e] at c3
  have k0 := (hc 0 (by omega)).trans h0
  have k1 := (hc 1 (by omega)).trans h1
  have k2 := (hc 2 (by omega)).trans h2
  have k3 := (hc 3 (by omega)).trans h3
  clear h e hc h0 h1 h2 h3
  go_enter Tryd.func12, Tryd.ntmps12
  go_wp2_with fail
  go_quiet (fail)
  go_wp2_with fail
  go_returns
  exact ⟨rfl, below_drewN ((Below.refl _ _).alloc (Nat.le_refl _) _) _⟩

set_option maxHeartbeats 1000000 in
theorem field12_1 {N sb : Nat} {w : World} {S : List Int} {g : Option Nat} {fs : Value} {xs : List Value} (h : AD N w sb S g fs 2 xs) (a b c d : Int) (h0 : xs[4]? = some (.int .i64 a)) (h1 : xs[5]? = some (.int .i64 b)) (h2 : xs[6]? = some (.int .i64 c)) (h3 : xs[7]? = some (.int .i64 d)) :
    Calls Tryd.prog 12 #[.pointer (some ⟨sb, 0, none⟩), .int .i64 1] w fun e w' => e = .returned (.tuple #[.int .i64 a, .int .i64 b, .int .i64 c, .int .i64 d]) ∧ Below w.heap.size w w' := by
  obtain ⟨fb, cap, e, hc, _⟩ := h.slice (by omega)
  have c3 := h.sk.c3
  rw [e] at c3
  have k0 := (hc 4 (by omega)).trans h0
  have k1 := (hc 5 (by omega)).trans h1
  have k2 := (hc 6 (by omega)).trans h2
  have k3 := (hc 7 (by omega)).trans h3
  clear h e hc h0 h1 h2 h3
  go_enter Tryd.func12, Tryd.ntmps12
  go_wp2_with fail
  go_quiet (fail)
  go_wp2_with fail
  go_returns
  exact ⟨rfl, below_drewN ((Below.refl _ _).alloc (Nat.le_refl _) _) _⟩

end Go.Proofs.Qxb6613323aDoor.Do
