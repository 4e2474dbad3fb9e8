/-
  (*bytes.Buffer).Write (38): what the sink holds behind it, and where its row lies.
-/
import Derived.Test.Qxb6613323aWsE
import Derived.Lib.BufferSrc
namespace Go.Proofs.Qxb6613323a.Ws
open Go.ChangeShapes Go.WideShapes Go.ChangeAt Go.RowKit

/-- bytes as cells. -/
def U (l : List Int) : List Value := l.map (Value.int .u8)
theorem U_length (l : List Int) : (U l).length = l.length := List.length_map _
theorem U_append (l m : List Int) : U (l ++ m) = U l ++ U m := List.map_append
theorem U_one (l : List Int) : ∀ v ∈ U l, v.oneCell' = true := by
  intro v hv
  obtain ⟨z, _, rfl⟩ := List.mem_map.1 hv
  rfl
theorem U_get (l : List Int) (i : Nat) (h : i < l.length) : (U l)[i]? = some (.int .u8 (bt l i)) := by
  simp [U, bt, h]

/-- the sink in block sb holds the bytes S, in the row g (none: nothing was ever written). -/
def Sk (w : World) (sb : Nat) (S : List Int) : Option Nat → Prop
  | none => S = [] ∧ ∃ lr, Bf w sb (.slice none 0 0) lr
  | some g => ∃ cap cur lr, Bf w sb (.slice (some ⟨g, 0, none⟩) S.length cap) lr ∧ w.heap[g]? = some (.cells cur 5 (0, 0)) ∧ cur.size = cap ∧ S.length ≤ cap ∧ cap ≤ maxLen ∧ cur.toList.take S.length = U S ∧ g ≠ sb

theorem size5 : (Try.prog.info? 5).map (·.size) = some 1 := by
  obtain ⟨i0, hi, _, hz1, _⟩ := info5_parts
  rw [hi]; simp [hz1]

theorem Mv.setRow {b g : Nat} {o : Option Nat} {w w' : World} (h : Mv b o w w') (hg : w.heap.size ≤ g ∨ o = some g) (cs : Array Value) : Mv b o w (w'.setRow g cs) :=
  ⟨h.os, h.tape, h.output, by simpa [World.setRow] using h.size, fun k hk h1 h2 => (setRow_other w' g k cs (by
    rcases hg with hg | hg
    · omega
    · intro e; subst e; exact h2 hg.symm)).trans (h.block k hk h1 h2)⟩

set_option maxHeartbeats 1000000 in
theorem write_zero_nil (sb : Nat) (ad : Addr) (c : Nat) (lr : Int) (w : World) (h : Bf w sb (.slice none 0 0) lr) :
    Calls Try.prog 38 #[.pointer (some ⟨sb, 0, none⟩), .slice (some ad) 0 c] w fun e w' => e = .returned (.tuple #[.int .i64 0, .nilIface]) ∧ Bf w' sb (.slice none 0 0) 0 ∧ Mv sb none w w' := by
  have c2 := h.c2
  have f2 := h.free 2
  have H : Hid (Bf w sb (.slice none 0 0) lr) := h
  have hce : ∀ d dLen dCap W, (Builtin.copy_ #[22, 22] 3 #[.slice d dLen dCap, .slice (some ad) 0 c]).run Try.prog W = .ok (goInt 0) W := fun d dLen dCap W => run_copy_none W 22 22 3 5 d (some ad) dLen dCap 0 c Try.underlying22 size5 (by simp)
  clear h
  go_enter Try.func38, Try.ntmps38
  go_wp2_with fail
  refine Calls.mono (try_room sb none 0 0 0 0 _ (H.out.set2 0) (Nat.le_refl _) (Nat.zero_le _) (Nat.zero_le _)) ?_
  rintro e W1 ⟨rfl, hW1⟩
  have b1 : Bf W1 sb (.slice none 0 0) 0 := by rw [← hW1]; exact (H.out.set2 0).set0 _
  have M1 : Hid (Mv sb none w W1) := by rw [← hW1]; exact ((Mv.refl _ _ _).setCell _ _).setCell _ _
  have B1 : Hid (Bf W1 sb (.slice none 0 0) 0) := b1
  have d0 := b1.c0
  clear b1 hW1
  go_wp2_with fail
  go_ret2
  exact ⟨rfl, B1.out, M1.out⟩

set_option maxHeartbeats 1000000 in
theorem write_zero_row (sb g l cap : Nat) (ad : Addr) (c : Nat) (lr : Int) (w : World) (h : Bf w sb (.slice (some ⟨g, 0, none⟩) l cap) lr) (hlc : l ≤ cap) (hcm : cap ≤ maxLen) :
    Calls Try.prog 38 #[.pointer (some ⟨sb, 0, none⟩), .slice (some ad) 0 c] w fun e w' => e = .returned (.tuple #[.int .i64 0, .nilIface]) ∧ Bf w' sb (.slice (some ⟨g, 0, none⟩) l cap) 0 ∧ Mv sb none w w' := by
  have c2 := h.c2
  have f2 := h.free 2
  have H : Hid (Bf w sb (.slice (some ⟨g, 0, none⟩) l cap) lr) := h
  have hce : ∀ d dLen dCap W, (Builtin.copy_ #[22, 22] 3 #[.slice d dLen dCap, .slice (some ad) 0 c]).run Try.prog W = .ok (goInt 0) W := fun d dLen dCap W => run_copy_none W 22 22 3 5 d (some ad) dLen dCap 0 c Try.underlying22 size5 (by simp)
  clear h
  have hcm' := hcm
  unfold maxLen at hcm'
  go_enter Try.func38, Try.ntmps38
  go_wp2_with fail
  refine Calls.mono (try_room sb (some ⟨g, 0, none⟩) l cap 0 0 _ (H.out.set2 0) hlc hcm (Nat.zero_le _)) ?_
  rintro e W1 ⟨rfl, hW1⟩
  have b1 : Bf W1 sb (.slice (some ⟨g, 0, none⟩) l cap) 0 := by rw [← hW1]; exact (H.out.set2 0).set0 _
  have M1 : Hid (Mv sb none w W1) := by rw [← hW1]; exact ((Mv.refl _ _ _).setCell _ _).setCell _ _
  have B1 : Hid (Bf W1 sb (.slice (some ⟨g, 0, none⟩) l cap) 0) := b1
  have d0 := b1.c0
  clear b1 hW1
  by_cases hcl : cap = l
  · subst hcl
    go_wp2_with fail
    go_ret2
    exact ⟨rfl, B1.out, M1.out⟩
  · go_wp2_with fail
    go_ret2
    exact ⟨rfl, B1.out, M1.out⟩

theorem row_written {cur : Array Value} {cs : List Value} {l n cap : Nat} (hcs : cur.size = cap) (hlc : l ≤ cap) (hl : cs.length = n) (hroom : n ≤ cap - l) :
    (cur.toList.take l ++ cs ++ cur.toList.drop (l + n)).toArray.size = cap ∧ (cur.toList.take l ++ cs ++ cur.toList.drop (l + n)).toArray.toList.take (l + n) = cur.toList.take l ++ cs := by
  have h1 : (cur.toList.take l ++ cs).length = l + n := by
    rw [List.length_append, List.length_take, Array.length_toList, hcs, hl]; omega
  constructor
  · rw [List.size_toArray, List.length_append, h1, List.length_drop, Array.length_toList, hcs]; omega
  · show (cur.toList.take l ++ cs ++ cur.toList.drop (l + n)).take (l + n) = _
    rw [List.take_append_of_le_length (by rw [h1]; exact Nat.le_refl _), List.take_of_length_le (by rw [h1]; exact Nat.le_refl _)]

set_option maxHeartbeats 1000000 in
/-- there is room in the sink's row. -/
theorem write_room (sb g l cap n c : Nat) (ad : Addr) (lr : Int) (cur : Array Value) (cs : List Value) (w : World) (h : Bf w sb (.slice (some ⟨g, 0, none⟩) l cap) lr) (hg : w.heap[g]? = some (.cells cur 5 (0, 0))) (hcs : cur.size = cap) (hlc : l ≤ cap) (hcm : cap ≤ maxLen) (hgs : g ≠ sb)
    (hn : 1 ≤ n) (hroom : n ≤ cap - l) (hl : cs.length = n) (hsrc : ∀ j v, cs[j]? = some v → w.cell? (ad.add j) = some v) (had : ad.block ≠ sb) (h1 : ∀ v ∈ cs, v.oneCell' = true) :
    Calls Try.prog 38 #[.pointer (some ⟨sb, 0, none⟩), .slice (some ad) n c] w fun e w' => e = .returned (.tuple #[.int .i64 n, .nilIface]) ∧ Bf w' sb (.slice (some ⟨g, 0, none⟩) (l + n) cap) 0 ∧
      (∃ Y : Array Value, w'.heap[g]? = some (.cells Y 5 (0, 0)) ∧ Y.size = cap ∧ Y.toList.take (l + n) = cur.toList.take l ++ cs) ∧ Mv sb (some g) w w' := by
  have c2 := h.c2
  have f2 := h.free 2
  have H : Hid (Bf w sb (.slice (some ⟨g, 0, none⟩) l cap) lr) := h
  clear h
  have hcm' := hcm
  unfold maxLen at hcm'
  have HG : Hid (w.heap[g]? = some (.cells cur 5 (0, 0))) := hg
  have HS : Hid (∀ j v, cs[j]? = some v → w.cell? (ad.add j) = some v) := hsrc
  clear hg hsrc
  go_enter Try.func38, Try.ntmps38
  go_wp2_with fail
  refine Calls.mono (try_room sb (some ⟨g, 0, none⟩) l cap n 0 _ (H.out.set2 0) hlc hcm hroom) ?_
  rintro e W1 ⟨rfl, hW1⟩
  have b1 : Bf W1 sb (.slice (some ⟨g, 0, none⟩) (l + n) cap) 0 := by rw [← hW1]; exact (H.out.set2 0).set0 _
  have M1 : Hid (Mv sb (some g) w W1) := by rw [← hW1]; exact ((Mv.refl _ _ _).setCell _ _).setCell _ _
  have oth : ∀ k, k ≠ sb → W1.heap[k]? = w.heap[k]? := fun k hk => by rw [← hW1, Below.heap_setCell _ _ _ _ hk, Below.heap_setCell _ _ _ _ hk]
  have B1 : Hid (Bf W1 sb (.slice (some ⟨g, 0, none⟩) (l + n) cap) 0) := b1
  have d0 := b1.c0
  have hg1 : W1.heap[g]? = some (.cells cur 5 (0, 0)) := (oth g hgs).trans HG.out
  have hs1 : ∀ j v, cs[j]? = some v → W1.cell? (ad.add j) = some v := fun j v hj => (World.cell?_of_block (w := w) (oth _ (by rw [Lib.block_add]; exact had))).trans (HS.out j v hj)
  have hcp := run_copy_row (P := Try.prog) W1 22 22 3 5 g l n (cap - l) ad n c cur 5 cs Try.underlying22 size5 hg1 (by rw [hl]; exact (Nat.min_self n).symm) hs1 (by rw [hl]; omega) h1
  rw [hl] at hcp
  have HY : Hid ((cur.toList.take l ++ cs ++ cur.toList.drop (l + n)).toArray.size = cap ∧ (cur.toList.take l ++ cs ++ cur.toList.drop (l + n)).toArray.toList.take (l + n) = cur.toList.take l ++ cs) := row_written hcs hlc hl hroom
  generalize (cur.toList.take l ++ cs ++ cur.toList.drop (l + n)).toArray = Y at hcp HY
  have HE : Hid ((W1.setRow g Y).heap[g]? = some (.cells Y 5 (0, 0))) := setRow_heap W1 g cur Y 5 (0, 0) hg1
  have HO : Hid (∀ v : Array Value, Bf (W1.setRow g v) sb (.slice (some ⟨g, 0, none⟩) (l + n) cap) 0) := fun v => (setRow_other W1 g sb v (Ne.symm hgs)).trans b1
  have hne : ¬ cap = l := by omega
  clear b1 hW1 oth hs1 hg1
  go_wp2_with fail
  go_ret2
  exact ⟨rfl, HO.out _, ⟨Y, HE.out, HY.out⟩, M1.out.setRow (.inr rfl) _⟩

set_option maxHeartbeats 1000000 in
/-- there is no room: 'grow' makes a new row. -/
theorem write_grow (sb l cap n c : Nat) (ao : Option Addr) (ad : Addr) (lr : Int) (old cs : List Value) (w : World) (h : Bf w sb (.slice ao l cap) lr) (hlc : l ≤ cap) (hcm : cap ≤ maxLen)
    (hn : 1 ≤ n) (hroom : cap - l < n) (hl : cs.length = n) (hsrc : ∀ j v, cs[j]? = some v → w.cell? (ad.add j) = some v) (had : ad.block ≠ sb) (h1 : ∀ v ∈ cs, v.oneCell' = true)
    (hgrow : ∀ W : World, Bf W sb (.slice ao l cap) 0 → (∀ k, k ≠ sb → W.heap[k]? = w.heap[k]?) → Calls Try.prog 40 #[.pointer (some ⟨sb, 0, none⟩), .int .i64 n] W fun e w' => e = .returned (.int .i64 l) ∧ Grew sb l n old W w') :
    Calls Try.prog 38 #[.pointer (some ⟨sb, 0, none⟩), .slice (some ad) n c] w fun e w' => e = .returned (.tuple #[.int .i64 n, .nilIface]) ∧ ∃ g cap2 lr2, Bf w' sb (.slice (some ⟨g, 0, none⟩) (l + n) cap2) lr2 ∧
      (∃ Y : Array Value, w'.heap[g]? = some (.cells Y 5 (0, 0)) ∧ Y.size = cap2 ∧ Y.toList.take (l + n) = old ++ cs) ∧ l + n ≤ cap2 ∧ cap2 ≤ maxLen ∧ w.heap.size ≤ g ∧ g ≠ sb ∧ Mv sb none w w' := by
  have c2 := h.c2
  have f2 := h.free 2
  have H : Hid (Bf w sb (.slice ao l cap) lr) := h
  have hlt := h.lt
  have hcm' := hcm
  unfold maxLen at hcm'
  have HS : Hid (∀ j v, cs[j]? = some v → w.cell? (ad.add j) = some v) := hsrc
  have CG : Hid _ := hgrow (w.setCell ⟨sb, 2, none⟩ (.int .i8 0)) (h.set2 0) (fun k hk => Below.heap_setCell _ _ _ _ hk)
  clear hsrc hgrow h
  have hz : (w.setCell ⟨sb, 2, none⟩ (.int .i8 0)).heap.size = w.heap.size := by simp [World.setCell]
  go_enter Try.func38, Try.ntmps38
  go_wp2_with fail
  refine Calls.mono (try_none sb ao l cap n 0 _ (H.out.set2 0) hlc hcm hroom) ?_
  rintro e W0 ⟨rfl, rfl⟩
  go_wp2_with fail
  refine Calls.mono CG.out ?_
  rintro e W1 ⟨rfl, g, cap2, cur, lr2, b1, hg1, hcs2, hln2, hcm2, htk, hge, hM⟩
  rw [hz] at hge
  have M1 : Hid (Mv sb none w W1) := ((Mv.refl sb none w).setCell 2 (.int .i8 0)).trans hM
  have hgs : g ≠ sb := by omega
  have B1 : Hid (Bf W1 sb (.slice (some ⟨g, 0, none⟩) (l + n) cap2) lr2) := b1
  have d0 := b1.c0
  have hs1 : ∀ j v, cs[j]? = some v → W1.cell? (ad.add j) = some v := fun j v hj => by
    have h0 := HS.out j v hj
    have hb : ad.block < w.heap.size := by
      by_cases hb : ad.block < w.heap.size
      · exact hb
      · rw [World.cell?, Lib.block_add, Array.getElem?_eq_none (Nat.le_of_not_lt hb)] at h0; cases h0
    exact (World.cell?_of_block (w := w) (M1.out.block _ (by rw [Lib.block_add]; exact hb) (by rw [Lib.block_add]; exact had) (by simp))).trans h0
  have hcp := run_copy_row (P := Try.prog) W1 22 22 3 5 g l n (cap2 - l) ad n c cur 5 cs Try.underlying22 size5 hg1 (by rw [hl]; exact (Nat.min_self n).symm) hs1 (by rw [hl]; omega) h1
  rw [hl] at hcp
  have HY : Hid ((cur.toList.take l ++ cs ++ cur.toList.drop (l + n)).toArray.size = cap2 ∧ (cur.toList.take l ++ cs ++ cur.toList.drop (l + n)).toArray.toList.take (l + n) = cur.toList.take l ++ cs) := row_written hcs2 (by omega) hl (by omega)
  generalize (cur.toList.take l ++ cs ++ cur.toList.drop (l + n)).toArray = Y at hcp HY
  rw [htk] at HY
  have HE : Hid ((W1.setRow g Y).heap[g]? = some (.cells Y 5 (0, 0))) := setRow_heap W1 g cur Y 5 (0, 0) hg1
  have HO : Hid (∀ v : Array Value, Bf (W1.setRow g v) sb (.slice (some ⟨g, 0, none⟩) (l + n) cap2) lr2) := fun v => (setRow_other W1 g sb v (Ne.symm hgs)).trans b1
  have hne : ¬ cap2 = l := by omega
  have hcm2' := hcm2
  unfold maxLen at hcm2'
  clear b1 hs1 hg1 hM htk hcs2 hz
  go_wp2_with fail
  go_ret2
  exact ⟨rfl, g, cap2, lr2, HO.out _, ⟨Y, HE.out, HY.out⟩, hln2, hcm2, hge, hgs, M1.out.setRow (.inl hge) _⟩

/-- (*bytes.Buffer).Write: the sink holds p behind what it held; its row is the one it had, or a new block; nothing else has turned. -/
theorem write38 (sb : Nat) (g : Option Nat) (S p : List Int) (ad : Addr) (n c : Nat) (w : World) (hs : Sk w sb S g) (hn : p.length = n) (had : ad.block ≠ sb) (hsrc : ∀ j v, (U p)[j]? = some v → w.cell? (ad.add j) = some v) (hlim : S.length + n ≤ 140737488355328) :
    Calls Try.prog 38 #[.pointer (some ⟨sb, 0, none⟩), .slice (some ad) n c] w fun e w' => e = .returned (.tuple #[.int .i64 n, .nilIface]) ∧ ∃ g', Sk w' sb (S ++ p) g' ∧ (g' = g ∨ ∃ k, g' = some k ∧ w.heap.size ≤ k) ∧ Mv sb g w w' := by
  have hUn : (U p).length = n := by rw [U_length, hn]
  by_cases hn0 : n = 0
  · subst hn0
    obtain rfl : p = [] := List.eq_nil_of_length_eq_zero hn
    rw [List.append_nil]
    cases g with
    | none =>
      obtain ⟨rfl, lr, hb⟩ := hs
      refine (write_zero_nil sb ad c lr w hb).mono ?_
      rintro e w' ⟨rfl, hb', hM⟩
      exact ⟨rfl, none, ⟨rfl, _, hb'⟩, .inl rfl, hM⟩
    | some g =>
      obtain ⟨cap, cur, lr, hb, hg, hcs, hlc, hcm, htk, hgs⟩ := hs
      refine (write_zero_row sb g S.length cap ad c lr w hb hlc hcm).mono ?_
      rintro e w' ⟨rfl, hb', hM⟩
      have hlt : g < w.heap.size := (Array.getElem?_eq_some_iff.1 hg).1
      exact ⟨rfl, some g, ⟨cap, cur, _, hb', (hM.block g hlt hgs (by simp)).trans hg, hcs, hlc, hcm, htk, hgs⟩, .inl rfl, hM.more⟩
  · cases g with
    | none =>
      obtain ⟨rfl, lr, hb⟩ := hs
      refine (write_grow sb 0 0 n c none ad lr [] (U p) w hb (Nat.le_refl _) (Nat.zero_le _) (by omega) (by omega) hUn hsrc had (U_one p) ?_).mono ?_
      · intro W hW _
        by_cases h64 : n ≤ 64
        · exact grow_small sb n 0 W hW (by omega) h64
        · exact grow_big sb n 0 W hW (by omega) (by simpa using hlim)
      · rintro e w' ⟨rfl, g, cap2, lr2, hb', ⟨Y, hY, hYs, hYt⟩, hln, hcm2, hge, hgs, hM⟩
        rw [Nat.zero_add] at hb' hYt hln
        refine ⟨rfl, some g, ⟨cap2, Y, lr2, ?_, hY, hYs, ?_, hcm2, ?_, hgs⟩, .inr ⟨g, rfl, hge⟩, hM⟩
        · rw [List.nil_append, hn]; exact hb'
        · rw [List.nil_append, hn]; exact hln
        · rw [List.nil_append, hn]; exact hYt
    | some g =>
      obtain ⟨cap, cur, lr, hb, hg, hcs, hlc, hcm, htk, hgs⟩ := hs
      by_cases hroom : n ≤ cap - S.length
      · refine (write_room sb g S.length cap n c ad lr cur (U p) w hb hg hcs hlc hcm hgs (by omega) hroom hUn hsrc had (U_one p)).mono ?_
        rintro e w' ⟨rfl, hb', ⟨Y, hY, hYs, hYt⟩, hM⟩
        refine ⟨rfl, some g, ⟨cap, Y, 0, ?_, hY, hYs, ?_, hcm, ?_, hgs⟩, .inl rfl, hM⟩
        · rw [List.length_append, hn]; exact hb'
        · rw [List.length_append, hn]; omega
        · rw [List.length_append, hn, hYt, htk, U_append]
      · refine (write_grow sb S.length cap n c (some ⟨g, 0, none⟩) ad lr (U S) (U p) w hb hlc hcm (by omega) (by omega) hUn hsrc had (U_one p) ?_).mono ?_
        · intro W hW hoth
          have hgW : W.heap[g]? = some (.cells cur 5 (0, 0)) := (hoth g hgs).trans hg
          rw [← htk]
          by_cases hl0 : S.length = 0
          · rw [hl0] at hW htk hroom hlim ⊢
            exact grow_row0 sb g cap n 0 cur W hW hgW hcs (Nat.zero_le _) (by omega) (by simp) (by omega) (by omega) hlim
          · exact grow_row1 sb g S.length cap n 0 cur W hW hgW hcs hlc (by omega) (by rw [htk]; exact U_one S) (by omega) (by omega) hlim (by simp; exact fun e => hl0 (by rw [e]; rfl))
        · rintro e w' ⟨rfl, g2, cap2, lr2, hb', ⟨Y, hY, hYs, hYt⟩, hln, hcm2, hge, hgs2, hM⟩
          refine ⟨rfl, some g2, ⟨cap2, Y, lr2, ?_, hY, hYs, ?_, hcm2, ?_, hgs2⟩, .inr ⟨g2, rfl, hge⟩, hM.more⟩
          · rw [List.length_append, hn]; exact hb'
          · rw [List.length_append, hn]; exact hln
          · rw [List.length_append, hn, hYt, U_append]

end Go.Proofs.Qxb6613323a.Ws
