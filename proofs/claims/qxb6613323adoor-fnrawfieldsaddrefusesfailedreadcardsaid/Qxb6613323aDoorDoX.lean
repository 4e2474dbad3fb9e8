/-
  (*bytes.Buffer).ReadFrom (25) over a multiReader that fails: the walk.
-/
import Derived.Test.Qxb6613323aDoorDoW
import Derived.Deep.RegionHeld3
namespace Go.Proofs.Qxb6613323aDoor.Do
open Go.ChangeShapes Go.WideShapes Go.ChangeAt Go.RowKit

theorem nil_ahead67 (a : Addr) (w : World) : (nilAhead 208 67 (.pointer (some a)) "Read").run Tryd.prog w = .ok (some false) w := by kernel_rfl
theorem method67 (a : Addr) (w : World) : (method 208 67 (.pointer (some a)) "Read").run Tryd.prog w = .ok (51, .pointer (some a)) w := by kernel_rfl

set_option maxHeartbeats 4000000 in
theorem rfF25 (w : World) (sb rb : Nat) (tE : TypeId) (aE xA : Addr) (RS : World → List Int → Prop) (D K : Nat → Prop) (Ok Bad : World → Prop) (hR : ReadsF 51 (.pointer (some ⟨rb, 0, none⟩)) (.iface 73 (.pointer (some xA))) (.iface tE (.pointer (some aE))) RS D Ok Bad)
    (hok : ∀ W, Kp K w W → Ok W) (hqX : ∀ W v, Kp K w (W.setCell ⟨sb, 0, none⟩ v) → Bad W → (binOp .eql 34 (.iface 73 (.pointer (some xA))) (.iface tE (.pointer (some aE)))).run Tryd.prog (W.setCell ⟨sb, 0, none⟩ v) = .ok (.bool false) (W.setCell ⟨sb, 0, none⟩ v))
    (hq4 : ∀ W, (binOp .neq 34 (.iface 73 (.pointer (some xA))) .nilIface).run Tryd.prog W = .ok (.bool true) W)
    (hq2 : ∀ W, (binOp .eql 34 .nilIface (.iface tE (.pointer (some aE)))).run Tryd.prog W = .ok (.bool false) W)
    (g : Option Nat) (S rest : List Int) (fs : Value) (hs : Sk w sb S fs g) (hr : RS w rest) (hDs : ¬ D sb) (hs1 : sb ≠ 1) (hDg : ∀ k, g = some k → ¬ D k ∧ k ≠ 1 ∧ ¬ K k) (hlim : S.length + rest.length ≤ 1048576)
    (hKs : ¬ K sb) (hKlt : ∀ k, K k → k < w.heap.size) (hK1 : ∀ k, K k → ¬ D k) :
    Calls Tryd.prog 25 #[.pointer (some ⟨sb, 0, none⟩), .iface 67 (.pointer (some ⟨rb, 0, none⟩))] w fun e w' => e = .returned (.tuple #[.int .i64 rest.length, .iface 73 (.pointer (some xA))]) ∧ ∃ g', Sk w' sb (S ++ rest) fs g' ∧ (g' = g ∨ ∃ k, g' = some k ∧ w.heap.size ≤ k) ∧ Kp K w w' := by
  have hb0 : ∃ v lr, Bf w sb v lr fs := by
    cases g with
    | none => exact ⟨_, hs.2.choose, hs.2.choose_spec⟩
    | some k => obtain ⟨cap, cur, lr, a, _⟩ := hs; exact ⟨_, lr, a⟩
  obtain ⟨v0, lr0, hb0⟩ := hb0
  have c2 := hb0.c2
  have f2 := hb0.free 2
  have R0 : Hid (RF sb fs S rest g w RS D K 0 (w.setCell ⟨sb, 2, none⟩ (.int .i8 0)) g) := by
    have hoth : ∀ k, k ≠ sb → (w.setCell ⟨sb, 2, none⟩ (.int .i8 0)).heap[k]? = w.heap[k]? := fun k hk => Below.heap_setCell _ _ _ _ hk
    refine ⟨?_, ?_, .inl rfl, (Kp.refl _ _).setCell hKs _ _, hDg⟩
    · rw [List.take_zero, List.append_nil]
      cases g with
      | none => obtain ⟨h1, lr, h2⟩ := hs; exact ⟨h1, _, h2.set2 0⟩
      | some k => obtain ⟨cap, cur, lr, a, b, r⟩ := hs; exact ⟨cap, cur, _, a.set2 0, (hoth k r.2.2.2.2).trans b, r⟩
    · rw [List.drop_zero]
      refine hR.stab _ _ _ hr fun k hk => hoth k ?_
      rintro rfl
      rcases hk with hk | hk
      · exact hDs hk
      · exact hs1 hk
  have HR : Hid (ReadsF 51 (.pointer (some ⟨rb, 0, none⟩)) (.iface 73 (.pointer (some xA))) (.iface tE (.pointer (some aE))) RS D Ok Bad) := hR
  have HOK : Hid (∀ W, Kp K w W → Ok W) := hok
  have HQX : Hid (∀ W v, Kp K w (W.setCell ⟨sb, 0, none⟩ v) → Bad W → (binOp .eql 34 (.iface 73 (.pointer (some xA))) (.iface tE (.pointer (some aE)))).run Tryd.prog (W.setCell ⟨sb, 0, none⟩ v) = .ok (.bool false) (W.setCell ⟨sb, 0, none⟩ v)) := hqX
  have HK1 : Hid (∀ k, K k → ¬ D k) := hK1
  have HKL : Hid (∀ k, K k → k < w.heap.size) := hKlt
  have HDs : Hid (¬ D sb) := hDs
  have HKs : Hid (¬ K sb) := hKs
  have HS1 : Hid (sb ≠ 1) := hs1
  have na := fun w => nil_ahead67 ⟨rb, 0, none⟩ w
  have nm := fun w => method67 ⟨rb, 0, none⟩ w
  clear hok hqX
  clear hs hr hDs hDg hKs hKlt hK1 hR hb0 hs1
  go_enter Tryd.func25, Tryd.ntmps25
  go_wp2_with fail
  go_loopw [4] (fun i wr => ∃ (t : Nat) (g1 : Option Nat), i = .int .i64 t ∧ t ≤ rest.length ∧ Hid (RF sb fs S rest g w RS D K t wr g1)) (fun i _ => rest.length - (intOf i).toNat)
  case atStart => exact ⟨0, g, rfl, Nat.zero_le _, R0.out⟩
  case round =>
    obtain ⟨t, g1, rfl, ht, hrf⟩ := hrel
    have hLb : (S ++ rest.take t).length ≤ 1048576 := by rw [List.length_append, List.length_take]; omega
    have CG : Hid (Calls Tryd.prog 27 #[.pointer (some ⟨sb, 0, none⟩), .int .i64 (512 : Nat)] wr fun e w' => e = .returned (.int .i64 (S ++ rest.take t).length) ∧ Grown2 sb fs (S ++ rest.take t) g1 512 wr w') := grow27 sb g1 _ fs 512 wr hrf.out.sk (by omega) (by omega)
    go_wp2_with fail
    refine Calls.mono CG.out ?_
    rintro e W1 ⟨rfl, hgr⟩
    obtain ⟨g2, cap, cur, lr, b1, J⟩ := hrf.out.grownF HR.out HDs.out HS1.out HKs.out HKL.out hgr
    obtain ⟨L, hL⟩ : ∃ L, L = (S ++ rest.take t).length := ⟨_, rfl⟩
    rw [← hL] at J b1 hLb ⊢
    have d0 := b1.c0
    have e0 := b1.free 0
    have hln := J.hln
    have hcm := J.hcm
    unfold maxLen at hcm
    have JJ : Hid (RG sb fs S rest g w RS D K t L (W1.setCell ⟨sb, 0, none⟩ (.slice (some ⟨g2, 0, none⟩) L cap)) g2 cap cur lr) := J
    have d1 := J.bf.c0
    clear b1 hgr CG hrf hL J
    have hne : ¬ cap = L := by omega
    have hi1 : (0 : Int) ≤ (L : Int) := by omega
    have hi2 : (L : Int) ≤ (cap : Int) := by omega
    by_cases hrest : rest.drop t = []
    · have htl : t = rest.length := by
        have := congrArg List.length hrest
        rw [List.length_drop, List.length_nil] at this
        omega
      have CR : Hid (Calls Tryd.prog 51 #[.pointer (some ⟨rb, 0, none⟩), .slice (some ⟨g2, L, none⟩) (cap - L) (cap - L)] (W1.setCell ⟨sb, 0, none⟩ (.slice (some ⟨g2, 0, none⟩) L cap)).drew fun e w' => e = .returned (.tuple #[.int .i64 0, .iface 73 (.pointer (some xA))]) ∧ w'.cell? ⟨1, 0, none⟩ = some (.iface tE (.pointer (some aE))) ∧ Bad w' ∧ Kp (fun k => k < (W1.setCell ⟨sb, 0, none⟩ (.slice (some ⟨g2, 0, none⟩) L cap)).heap.size ∧ ¬ D k) (W1.setCell ⟨sb, 0, none⟩ (.slice (some ⟨g2, 0, none⟩) L cap)) w') := by
        have h1 := JJ.out
        have hrs := h1.rs
        rw [hrest] at hrs
        refine Calls.mono (HR.out.done (W1.setCell ⟨sb, 0, none⟩ (.slice (some ⟨g2, 0, none⟩) L cap)).drew g2 L (cap - L) (cap - L) cur (HR.out.stab _ _ _ hrs fun _ _ => rfl) (HOK.out _ ⟨h1.kp.os, h1.kp.tape, h1.kp.output, h1.kp.size, h1.kp.block⟩) h1.hD.1 h1.hD.2.1 h1.row (by have := h1.hcs; omega) (by omega) (by have := h1.hcs; have := h1.hcm; omega)) ?_
        rintro e w' ⟨h1, h2, hb, h3⟩
        exact ⟨h1, h2, hb, h3.os, h3.tape, h3.output, h3.size, h3.block⟩
      clear hrest
      go_wp2_with fail
      go_region_held3 (fun w' => w'.cell? ⟨sb, 0, none⟩ = some (.slice (some ⟨g2, 0, none⟩) L cap)) (go_keep) ((go_at_call 51; refine Calls.mono CR.out ?_; rintro e W2 ⟨rfl, E2, hbad2, hks2⟩; obtain ⟨b2, s2, k2⟩ := JJ.out.last HK1.out HKL.out HDs.out HKs.out hks2; have y2 := HQX.out W2 (.slice (some ⟨g2, 0, none⟩) L cap) k2 hbad2; have d2 := b2.c0; have e2 := b2.free 0; have S2 : Hid (Sk (W2.setCell ⟨sb, 0, none⟩ (.slice (some ⟨g2, 0, none⟩) L cap)) sb (S ++ rest.take t) fs (some g2)) := s2; have K2 : Hid (Kp K w (W2.setCell ⟨sb, 0, none⟩ (.slice (some ⟨g2, 0, none⟩) L cap))) := k2; clear hbad2 hks2 b2 s2 k2))
      have HG : Hid (some g2 = g ∨ w.heap.size ≤ g2) := JJ.out.hg
      have HT : Hid (S ++ rest.take t = S ++ rest) := by rw [htl]; exact congrArg _ (List.take_length)
      clear JJ CR
      have hs1 : ¬ sb = 1 := HS1.out
      have hs2 : ¬ 1 = sb := fun e => hs1 e.symm
      go_wp2_with fail
      go_ret2
      refine ⟨rfl, some g2, ?_, ?_, K2.out⟩
      · rw [← HT.out]; exact S2.out
      · rcases HG.out with e | e
        · exact .inl e
        · exact .inr ⟨g2, rfl, e⟩
    · have CR : Hid (Calls Tryd.prog 51 #[.pointer (some ⟨rb, 0, none⟩), .slice (some ⟨g2, L, none⟩) (cap - L) (cap - L)] (W1.setCell ⟨sb, 0, none⟩ (.slice (some ⟨g2, 0, none⟩) L cap)).drew fun e w' => ∃ m : Nat, e = .returned (.tuple #[.int .i64 m, .nilIface]) ∧ 1 ≤ m ∧ m ≤ cap - L ∧ m ≤ (rest.drop t).length ∧
          Hid (RS w' ((rest.drop t).drop m) ∧ w'.heap[g2]? = some (.cells (cur.toList.take L ++ U ((rest.drop t).take m) ++ cur.toList.drop (L + m)).toArray 5 (0, 0)) ∧ Kp (fun k => k < (W1.setCell ⟨sb, 0, none⟩ (.slice (some ⟨g2, 0, none⟩) L cap)).heap.size ∧ ¬ D k ∧ k ≠ g2) (W1.setCell ⟨sb, 0, none⟩ (.slice (some ⟨g2, 0, none⟩) L cap)) w')) := by
        have h1 := JJ.out
        refine Calls.mono (HR.out.more (W1.setCell ⟨sb, 0, none⟩ (.slice (some ⟨g2, 0, none⟩) L cap)).drew _ g2 L (cap - L) (cap - L) cur (HR.out.stab _ _ _ h1.rs fun _ _ => rfl) hrest h1.hD.1 h1.hD.2.1 h1.row (by have := h1.hcs; omega) (by omega) (by have := h1.hcs; have := h1.hcm; omega)) ?_
        rintro e w' ⟨m, h1, h2, h3, h4, h5, h6, h7⟩
        exact ⟨m, h1, h2, h3, h4, h5, h6, h7.os, h7.tape, h7.output, h7.size, h7.block⟩
      clear hrest
      go_wp2_with fail
      go_region_held3 (fun w' => w'.cell? ⟨sb, 0, none⟩ = some (.slice (some ⟨g2, 0, none⟩) L cap)) (go_keep) ((go_at_call 51; refine Calls.mono CR.out ?_; rintro e W2 ⟨m, rfl, hm1, hm2, hm3, hk⟩; obtain ⟨b2, r2⟩ := JJ.out.nextF HK1.out HKL.out HDs.out HR.out HS1.out HKs.out hm2 hm3 hk.out.1 hk.out.2.1 hk.out.2.2; have E2 := HR.out.eof _ _ hk.out.1; have d2 := b2.c0; have e2 := b2.free 0; have R2 : Hid (RF sb fs S rest g w RS D K (t + m) (W2.setCell ⟨sb, 0, none⟩ (.slice (some ⟨g2, 0, none⟩) (L + m) cap)) (some g2)) := r2; clear hk b2 r2))
      have hm4 : t + m ≤ rest.length := by rw [List.length_drop] at hm3; omega
      clear JJ CR hm3
      have hs1 : ¬ sb = 1 := HS1.out
      have hs2 : ¬ 1 = sb := fun e => hs1 e.symm
      go_wp2_with fail
      go_roundw
      case rel => exact ⟨t + m, some g2, by go_num, hm4, R2.out⟩
      case measure => simp [intOf]; omega

end Go.Proofs.Qxb6613323aDoor.Do
