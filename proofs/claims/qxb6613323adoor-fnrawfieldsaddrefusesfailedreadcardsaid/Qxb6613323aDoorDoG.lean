/-
  (*bytes.Buffer).WriteString (24): what the buffer holds behind it, and where its row lies.
-/
import Derived.Test.Qxb6613323aDoorDoF
namespace Go.Proofs.Qxb6613323aDoor.Do
open Go.ChangeShapes Go.WideShapes Go.ChangeAt Go.RowKit

set_option maxHeartbeats 1000000 in
theorem ws_zero_nil (sb : Nat) (s : ByteArray) (lr : Int) (fs : Value) (w : World) (h : Bf w sb (.slice none 0 0) lr fs) (hs0 : s.size = 0) :
    Calls Tryd.prog 24 #[.pointer (some ⟨sb, 0, none⟩), .string s] w fun e w' => e = .returned (.tuple #[.int .i64 0, .nilIface]) ∧ Bf w' sb (.slice none 0 0) 0 fs ∧ Mv sb none w w' := by
  have c2 := h.c2
  have f2 := h.free 2
  have H : Hid (Bf w sb (.slice none 0 0) lr fs) := h
  have hce : ∀ d dLen dCap W, (Builtin.copy_ #[22, 9] 3 #[.slice d dLen dCap, .string s]).run Tryd.prog W = .ok (goInt 0) W := fun d dLen dCap W => Lib.run_copy_empty_string W 22 9 3 5 d dLen dCap s Tryd.underlying22 (by rw [size5]; rfl) hs0
  clear h
  go_enter Tryd.func24, Tryd.ntmps24
  go_wp2_with fail
  have hz : (Value.int .i64 (s.size : Int)) = .int .i64 ((0 : Nat) : Int) := by rw [hs0]
  try rw [hz]
  refine Calls.mono (try_room sb none 0 0 0 0 fs _ (H.out.set2 0) (Nat.le_refl _) (Nat.zero_le _) (Nat.zero_le _)) ?_
  rintro e W1 ⟨rfl, hW1⟩
  have b1 : Bf W1 sb (.slice none 0 0) 0 fs := by rw [← hW1]; exact (H.out.set2 0).set0 _
  have M1 : Hid (Mv sb none w W1) := by rw [← hW1]; exact ((Mv.refl _ _ _).setCell _ _).setCell _ _
  have B1 : Hid (Bf W1 sb (.slice none 0 0) 0 fs) := b1
  have d0 := b1.c0
  clear b1 hW1
  go_wp2_with fail
  go_ret2
  exact ⟨rfl, B1.out, M1.out⟩

set_option maxHeartbeats 1000000 in
theorem ws_zero_row (sb g l cap : Nat) (s : ByteArray) (lr : Int) (fs : Value) (w : World) (h : Bf w sb (.slice (some ⟨g, 0, none⟩) l cap) lr fs) (hlc : l ≤ cap) (hcm : cap ≤ maxLen) (hs0 : s.size = 0) :
    Calls Tryd.prog 24 #[.pointer (some ⟨sb, 0, none⟩), .string s] w fun e w' => e = .returned (.tuple #[.int .i64 0, .nilIface]) ∧ Bf w' sb (.slice (some ⟨g, 0, none⟩) l cap) 0 fs ∧ Mv sb none w w' := by
  have c2 := h.c2
  have f2 := h.free 2
  have H : Hid (Bf w sb (.slice (some ⟨g, 0, none⟩) l cap) lr fs) := h
  have hce : ∀ d dLen dCap W, (Builtin.copy_ #[22, 9] 3 #[.slice d dLen dCap, .string s]).run Tryd.prog W = .ok (goInt 0) W := fun d dLen dCap W => Lib.run_copy_empty_string W 22 9 3 5 d dLen dCap s Tryd.underlying22 (by rw [size5]; rfl) hs0
  clear h
  have hcm' := hcm
  unfold maxLen at hcm'
  go_enter Tryd.func24, Tryd.ntmps24
  go_wp2_with fail
  have hz : (Value.int .i64 (s.size : Int)) = .int .i64 ((0 : Nat) : Int) := by rw [hs0]
  try rw [hz]
  refine Calls.mono (try_room sb (some ⟨g, 0, none⟩) l cap 0 0 fs _ (H.out.set2 0) hlc hcm (Nat.zero_le _)) ?_
  rintro e W1 ⟨rfl, hW1⟩
  have b1 : Bf W1 sb (.slice (some ⟨g, 0, none⟩) l cap) 0 fs := by rw [← hW1]; exact (H.out.set2 0).set0 _
  have M1 : Hid (Mv sb none w W1) := by rw [← hW1]; exact ((Mv.refl _ _ _).setCell _ _).setCell _ _
  have B1 : Hid (Bf W1 sb (.slice (some ⟨g, 0, none⟩) l cap) 0 fs) := b1
  have d0 := b1.c0
  clear b1 hW1
  by_cases hcl : cap = l
  · subst hcl
    go_wp2_with fail
    go_ret2
    exact ⟨rfl, B1.out, M1.out⟩
  · go_wp2_with fail
    go_ret2
    exact ⟨rfl, B1.out, M1.out⟩

set_option maxHeartbeats 1000000 in
/-- there is room in the buffer's row. -/
theorem ws_room (sb g l cap : Nat) (s : ByteArray) (lr : Int) (fs : Value) (cur : Array Value) (w : World) (h : Bf w sb (.slice (some ⟨g, 0, none⟩) l cap) lr fs) (hg : w.heap[g]? = some (.cells cur 5 (0, 0))) (hcs : cur.size = cap) (hlc : l ≤ cap) (hcm : cap ≤ maxLen) (hgs : g ≠ sb)
    (hn : 1 ≤ s.size) (hroom : s.size ≤ cap - l) :
    Calls Tryd.prog 24 #[.pointer (some ⟨sb, 0, none⟩), .string s] w fun e w' => e = .returned (.tuple #[.int .i64 s.size, .nilIface]) ∧ Bf w' sb (.slice (some ⟨g, 0, none⟩) (l + s.size) cap) 0 fs ∧
      (∃ Y : Array Value, w'.heap[g]? = some (.cells Y 5 (0, 0)) ∧ Y.size = cap ∧ Y.toList.take (l + s.size) = cur.toList.take l ++ U (bl s)) ∧ Mv sb (some g) w w' := by
  have c2 := h.c2
  have f2 := h.free 2
  have H : Hid (Bf w sb (.slice (some ⟨g, 0, none⟩) l cap) lr fs) := h
  clear h
  have hcm' := hcm
  unfold maxLen at hcm'
  have HG : Hid (w.heap[g]? = some (.cells cur 5 (0, 0))) := hg
  clear hg
  go_enter Tryd.func24, Tryd.ntmps24
  go_wp2_with fail
  refine Calls.mono (try_room sb (some ⟨g, 0, none⟩) l cap s.size 0 fs _ (H.out.set2 0) hlc hcm hroom) ?_
  rintro e W1 ⟨rfl, hW1⟩
  have b1 : Bf W1 sb (.slice (some ⟨g, 0, none⟩) (l + s.size) cap) 0 fs := by rw [← hW1]; exact (H.out.set2 0).set0 _
  have M1 : Hid (Mv sb (some g) w W1) := by rw [← hW1]; exact ((Mv.refl _ _ _).setCell _ _).setCell _ _
  have oth : ∀ k, k ≠ sb → W1.heap[k]? = w.heap[k]? := fun k hk => by rw [← hW1, Below.heap_setCell _ _ _ _ hk, Below.heap_setCell _ _ _ _ hk]
  have B1 : Hid (Bf W1 sb (.slice (some ⟨g, 0, none⟩) (l + s.size) cap) 0 fs) := b1
  have d0 := b1.c0
  have hg1 : W1.heap[g]? = some (.cells cur 5 (0, 0)) := (oth g hgs).trans HG.out
  have hcp := Lib.run_copy_row_string (P := Tryd.prog) W1 22 9 3 5 g l s.size (cap - l) s cur 5 Tryd.underlying22 size5 hg1 (Nat.le_refl _) (by omega)
  rw [← U_bl] at hcp
  have hl : (U (bl s)).length = s.size := by rw [U_length, bl_length]
  have HY : Hid ((cur.toList.take l ++ U (bl s) ++ cur.toList.drop (l + s.size)).toArray.size = cap ∧ (cur.toList.take l ++ U (bl s) ++ cur.toList.drop (l + s.size)).toArray.toList.take (l + s.size) = cur.toList.take l ++ U (bl s)) := row_written hcs hlc hl hroom
  generalize (cur.toList.take l ++ U (bl s) ++ cur.toList.drop (l + s.size)).toArray = Y at hcp HY
  have HE : Hid ((W1.setRow g Y).heap[g]? = some (.cells Y 5 (0, 0))) := setRow_heap W1 g cur Y 5 (0, 0) hg1
  have HO : Hid (∀ v : Array Value, Bf (W1.setRow g v) sb (.slice (some ⟨g, 0, none⟩) (l + s.size) cap) 0 fs) := fun v => (setRow_other W1 g sb v (Ne.symm hgs)).trans b1
  have hne : ¬ cap = l := by omega
  clear b1 hW1 oth hg1 hl
  go_wp2_with fail
  go_ret2
  exact ⟨rfl, HO.out _, ⟨Y, HE.out, HY.out⟩, M1.out.setRow (.inr rfl) _⟩

set_option maxHeartbeats 1000000 in
/-- there is no room: 'grow' finds it. -/
theorem ws_grow (sb : Nat) (S : List Int) (gg : Option Nat) (cap : Nat) (ao : Option Addr) (s : ByteArray) (lr : Int) (fs : Value) (w : World) (h : Bf w sb (.slice ao S.length cap) lr fs) (hlc : S.length ≤ cap) (hcm : cap ≤ maxLen)
    (hn : 1 ≤ s.size) (hroom : cap - S.length < s.size) (hlim : S.length + s.size ≤ 140737488355328) (hsk : ∀ W : World, Bf W sb (.slice ao S.length cap) 0 fs → (∀ k, k ≠ sb → W.heap[k]? = w.heap[k]?) → Sk W sb S fs gg) :
    Calls Tryd.prog 24 #[.pointer (some ⟨sb, 0, none⟩), .string s] w fun e w' => e = .returned (.tuple #[.int .i64 s.size, .nilIface]) ∧ ∃ g cap2 lr2, Bf w' sb (.slice (some ⟨g, 0, none⟩) (S.length + s.size) cap2) lr2 fs ∧
      (∃ Y : Array Value, w'.heap[g]? = some (.cells Y 5 (0, 0)) ∧ Y.size = cap2 ∧ Y.toList.take (S.length + s.size) = U S ++ U (bl s)) ∧ S.length + s.size ≤ cap2 ∧ cap2 ≤ maxLen ∧ (some g = gg ∨ w.heap.size ≤ g) ∧ g ≠ sb ∧ Mv sb gg w w' := by
  have c2 := h.c2
  have f2 := h.free 2
  have H : Hid (Bf w sb (.slice ao S.length cap) lr fs) := h
  have hlt := h.lt
  have hcm' := hcm
  unfold maxLen at hcm'
  have CG : Hid (Calls Tryd.prog 27 #[.pointer (some ⟨sb, 0, none⟩), .int .i64 s.size] (w.setCell ⟨sb, 2, none⟩ (.int .i8 0)) fun e w' => e = .returned (.int .i64 S.length) ∧ Grown2 sb fs S gg s.size (w.setCell ⟨sb, 2, none⟩ (.int .i8 0)) w') :=
    grow27 sb gg S fs s.size (w.setCell ⟨sb, 2, none⟩ (.int .i8 0)) (hsk _ (h.set2 0) (fun k hk => Below.heap_setCell _ _ _ _ hk)) hn hlim
  clear hsk h
  have hz : (w.setCell ⟨sb, 2, none⟩ (.int .i8 0)).heap.size = w.heap.size := by simp [World.setCell]
  go_enter Tryd.func24, Tryd.ntmps24
  go_wp2_with fail
  refine Calls.mono (try_none sb ao S.length cap s.size 0 fs _ (H.out.set2 0) hlc hcm hroom) ?_
  rintro e W0 ⟨rfl, rfl⟩
  go_wp2_with fail
  refine Calls.mono CG.out ?_
  rintro e W1 ⟨rfl, g, cap2, cur, lr2, b1, hg1, hcs2, hln2, hcm2, htk, hgs, hge, hM⟩
  rw [hz] at hge
  have M1 : Hid (Mv sb gg w W1) := (((Mv.refl sb none w).setCell 2 (.int .i8 0)).trans hM).more
  have B1 : Hid (Bf W1 sb (.slice (some ⟨g, 0, none⟩) (S.length + s.size) cap2) lr2 fs) := b1
  have d0 := b1.c0
  have hcp := Lib.run_copy_row_string (P := Tryd.prog) W1 22 9 3 5 g S.length s.size (cap2 - S.length) s cur 5 Tryd.underlying22 size5 hg1 (Nat.le_refl _) (by omega)
  rw [← U_bl] at hcp
  have hl : (U (bl s)).length = s.size := by rw [U_length, bl_length]
  have HY : Hid ((cur.toList.take S.length ++ U (bl s) ++ cur.toList.drop (S.length + s.size)).toArray.size = cap2 ∧ (cur.toList.take S.length ++ U (bl s) ++ cur.toList.drop (S.length + s.size)).toArray.toList.take (S.length + s.size) = cur.toList.take S.length ++ U (bl s)) := row_written hcs2 (by omega) hl (by omega)
  generalize (cur.toList.take S.length ++ U (bl s) ++ cur.toList.drop (S.length + s.size)).toArray = Y at hcp HY
  rw [htk] at HY
  have HE : Hid ((W1.setRow g Y).heap[g]? = some (.cells Y 5 (0, 0))) := setRow_heap W1 g cur Y 5 (0, 0) hg1
  have HO : Hid (∀ v : Array Value, Bf (W1.setRow g v) sb (.slice (some ⟨g, 0, none⟩) (S.length + s.size) cap2) lr2 fs) := fun v => (setRow_other W1 g sb v (Ne.symm hgs)).trans b1
  have HQ : Hid (Mv sb gg w (W1.setRow g Y)) := M1.out.setRow (by rcases hge with hge | hge; exact .inr hge.symm; exact .inl hge) _
  have HR : Hid (some g = gg ∨ w.heap.size ≤ g) := hge
  have hne : ¬ cap2 = S.length := by omega
  have hcm2' := hcm2
  unfold maxLen at hcm2'
  clear b1 hg1 hM htk hcs2 hz hl hge
  go_wp2_with fail
  go_ret2
  exact ⟨rfl, g, cap2, lr2, HO.out _, ⟨Y, HE.out, HY.out⟩, hln2, hcm2, HR.out, hgs, HQ.out⟩

/-- (*bytes.Buffer).WriteString: the buffer holds s behind what it held; its row is the one it had, or a new block; nothing else has turned. -/
theorem ws24 (sb : Nat) (g : Option Nat) (S : List Int) (s : ByteArray) (fs : Value) (w : World) (hs : Sk w sb S fs g) (hlim : S.length + s.size ≤ 140737488355328) :
    Calls Tryd.prog 24 #[.pointer (some ⟨sb, 0, none⟩), .string s] w fun e w' => e = .returned (.tuple #[.int .i64 s.size, .nilIface]) ∧ ∃ g', Sk w' sb (S ++ bl s) fs g' ∧ (g' = g ∨ ∃ k, g' = some k ∧ w.heap.size ≤ k) ∧ Mv sb g w w' := by
  by_cases hn0 : s.size = 0
  · have hb0 : bl s = [] := List.eq_nil_of_length_eq_zero (by rw [bl_length, hn0])
    rw [hb0, List.append_nil, hn0]
    cases g with
    | none =>
      obtain ⟨rfl, lr, hb⟩ := hs
      refine (ws_zero_nil sb s lr fs w hb hn0).mono ?_
      rintro e w' ⟨rfl, hb', hM⟩
      exact ⟨rfl, none, ⟨rfl, _, hb'⟩, .inl rfl, hM⟩
    | some g =>
      obtain ⟨cap, cur, lr, hb, hg, hcs, hlc, hcm, htk, hgs⟩ := hs
      refine (ws_zero_row sb g S.length cap s lr fs w hb hlc hcm hn0).mono ?_
      rintro e w' ⟨rfl, hb', hM⟩
      have hlt : g < w.heap.size := (Array.getElem?_eq_some_iff.1 hg).1
      exact ⟨rfl, some g, ⟨cap, cur, _, hb', (hM.block g hlt hgs (by simp)).trans hg, hcs, hlc, hcm, htk, hgs⟩, .inl rfl, hM.more⟩
  · have key : ∀ (gg : Option Nat) (w' : World) (g2 cap2 : Nat) (lr2 : Int), Bf w' sb (.slice (some ⟨g2, 0, none⟩) (S.length + s.size) cap2) lr2 fs → (∃ Y : Array Value, w'.heap[g2]? = some (.cells Y 5 (0, 0)) ∧ Y.size = cap2 ∧ Y.toList.take (S.length + s.size) = U S ++ U (bl s)) → S.length + s.size ≤ cap2 → cap2 ≤ maxLen → g2 ≠ sb → Sk w' sb (S ++ bl s) fs (some g2) := by
      intro gg w' g2 cap2 lr2 hb' ⟨Y, hY, hYs, hYt⟩ hln hcm2 hgs2
      have hle : (S ++ bl s).length = S.length + s.size := by rw [List.length_append, bl_length]
      refine ⟨cap2, Y, lr2, ?_, hY, hYs, ?_, hcm2, ?_, hgs2⟩
      · rw [hle]; exact hb'
      · rw [hle]; exact hln
      · rw [hle, hYt, U_append]
    cases g with
    | none =>
      obtain ⟨rfl, lr, hb⟩ := hs
      refine (ws_grow sb [] none 0 none s lr fs w hb (Nat.le_refl _) (Nat.zero_le _) (by omega) (by simp; omega) hlim (fun W hW _ => ⟨rfl, _, hW⟩)).mono ?_
      rintro e w' ⟨rfl, g, cap2, lr2, hb', hY, hln, hcm2, hge, hgs, hM⟩
      refine ⟨rfl, some g, key none w' g cap2 lr2 hb' hY hln hcm2 hgs, .inr ⟨g, rfl, ?_⟩, hM⟩
      rcases hge with h | h
      · cases h
      · exact h
    | some g =>
      obtain ⟨cap, cur, lr, hb, hg, hcs, hlc, hcm, htk, hgs⟩ := hs
      by_cases hroom : s.size ≤ cap - S.length
      · refine (ws_room sb g S.length cap s lr fs cur w hb hg hcs hlc hcm hgs (by omega) hroom).mono ?_
        rintro e w' ⟨rfl, hb', hY, hM⟩
        rw [htk] at hY
        exact ⟨rfl, some g, key none w' g cap 0 hb' hY (by omega) hcm hgs, .inl rfl, hM⟩
      · refine (ws_grow sb S (some g) cap (some ⟨g, 0, none⟩) s lr fs w hb hlc hcm (by omega) (by omega) hlim (fun W hW hoth => ⟨cap, cur, _, hW, (hoth g hgs).trans hg, hcs, hlc, hcm, htk, hgs⟩)).mono ?_
        rintro e w' ⟨rfl, g2, cap2, lr2, hb', hY, hln, hcm2, hge, hgs2, hM⟩
        refine ⟨rfl, some g2, key none w' g2 cap2 lr2 hb' hY hln hcm2 hgs2, ?_, hM⟩
        rcases hge with h | h
        · exact .inl h
        · exact .inr ⟨g2, rfl, h⟩

end Go.Proofs.Qxb6613323aDoor.Do
