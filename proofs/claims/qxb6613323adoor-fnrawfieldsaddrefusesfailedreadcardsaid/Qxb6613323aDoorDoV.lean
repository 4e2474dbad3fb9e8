/-
  multiReader.Read (51) over a bytes.Reader and a failing reader.
-/
import Derived.Test.Qxb6613323aDoorDoT
namespace Go.Proofs.Qxb6613323aDoor.Do
open Go.ChangeShapes Go.WideShapes Go.ChangeAt Go.RowKit
set_option linter.unusedSimpArgs false

theorem method46' (a : Addr) (w : World) : (method 208 46 (.pointer (some a)) "Read").run Tryd.prog w = .ok (47, .pointer (some a)) w := by kernel_rfl
theorem method70 (a : Addr) (w : World) : (method 208 70 (.pointer (some a)) "Read").run Tryd.prog w = .ok (52, .pointer (some a)) w := by kernel_rfl

theorem assert70 (a : Addr) (w : World) : (Instr.typeAssert (.iface 70 (.pointer (some a))) 54 67 true).run Tryd.prog w = .ok (.tuple #[.pointer none, .bool false]) w := by kernel_rfl

/-- the length of a slice in a cell. -/
def slen : Option Value → Nat
  | some (.slice _ n _) => n
  | _ => 0

set_option maxHeartbeats 2000000 in
theorem multi_more (mb rr rb g o dl dc : Nat) (tE : TypeId) (aE : Addr) (w : World) (R : Nat → World → Prop) (c0 : w.cell? ⟨mb, 0, none⟩ = some (.slice (some ⟨rr, 0, none⟩) 2 2)) (r0 : w.cell? ⟨rr, 0, none⟩ = some (.iface 46 (.pointer (some ⟨rb, 0, none⟩))))
    (hq2 : ∀ W, (binOp .eql 34 .nilIface (.iface tE (.pointer (some aE)))).run Tryd.prog W = .ok (.bool false) W)
    (C : Calls Tryd.prog 47 #[.pointer (some ⟨rb, 0, none⟩), .slice (some ⟨g, o, none⟩) dl dc] w fun e w' => ∃ m : Nat, e = .returned (.tuple #[.int .i64 m, .nilIface]) ∧ 1 ≤ m ∧ R m w' ∧ w'.cell? ⟨1, 0, none⟩ = some (.iface tE (.pointer (some aE)))) :
    Calls Tryd.prog 51 #[.pointer (some ⟨mb, 0, none⟩), .slice (some ⟨g, o, none⟩) dl dc] w fun e w' => ∃ m : Nat, e = .returned (.tuple #[.int .i64 m, .nilIface]) ∧ R m w' := by
  have HC : Hid (Calls Tryd.prog 47 #[.pointer (some ⟨rb, 0, none⟩), .slice (some ⟨g, o, none⟩) dl dc] w fun e w' => ∃ m : Nat, e = .returned (.tuple #[.int .i64 m, .nilIface]) ∧ 1 ≤ m ∧ R m w' ∧ w'.cell? ⟨1, 0, none⟩ = some (.iface tE (.pointer (some aE)))) := C
  have nm := fun w => method46' ⟨rb, 0, none⟩ w
  clear C
  go_enter Tryd.func51, Tryd.ntmps51
  go_wp2_with fail
  go_loopw [4] (fun _ wr => wr = w) (fun _ _ => 0)
  case atStart => exact rfl
  case round =>
    subst hrel
    go_wp2_with fail
    refine Calls.mono HC.out ?_
    rintro e W1 ⟨m, rfl, hm, hR, hE⟩
    have hm2 : (0 : Int) < (m : Int) := by omega
    have HR : Hid (R m W1) := hR
    clear hR
    go_wp2_with fail
    go_ret2
    exact ⟨m, rfl, HR.out⟩

section
variable {P : Program} (w : World)
theorem run_neq_iface_ptr_same {ti tp te : TypeId} {ms : Array (String × TypeId)} {i j : TypeInfo} (a : Addr)
    (hi : P.underlying ti = some (.interface ms)) (hp : P.underlying tp = some (.pointer te)) (hinfo : P.info? tp = some i) (hcomp : i.comparable = true) (hte : P.info? te = some j) :
    (binOp .neq ti (.iface tp (.pointer (some a))) (.iface tp (.pointer (some a)))).run P w = .ok (.bool false) w := by
  simp only [binOp]
  simp [Op.equal, Op.maxDepth, run_equalIn_iface_ptr_same w 9998 a hi hp hinfo hcomp hte]
theorem run_neq_iface_ptr_other {ti tp te : TypeId} {ms : Array (String × TypeId)} {i j : TypeInfo} {a b : Addr} {ca cb : Array Value} {ta tb : TypeId}
    (hi : P.underlying ti = some (.interface ms)) (hp : P.underlying tp = some (.pointer te)) (hinfo : P.info? tp = some i) (hcomp : i.comparable = true) (hte : P.info? te = some j) (hsz : j.size ≠ 0)
    (hne : a ≠ b) (ha : w.heap[a.block]? = some (.cells ca ta (0, 0))) (hb : w.heap[b.block]? = some (.cells cb tb (0, 0))) :
    (binOp .neq ti (.iface tp (.pointer (some a))) (.iface tp (.pointer (some b)))).run P w = .ok (.bool true) w := by
  simp only [binOp]
  simp [Op.equal, Op.maxDepth, run_equalIn_iface_ptr_other w 9998 hi hp hinfo hcomp hte hsz hne ha hb]
end

/-- between the two rounds of the last Read: the bytes.Reader has been struck off. -/
structure PB (mb rr eb : Nat) (X E : Value) (w wr : World) : Prop where
  c0 : wr.cell? ⟨mb, 0, none⟩ = some (.slice (some ⟨rr, 1, none⟩) 1 1)
  r1 : wr.cell? ⟨rr, 1, none⟩ = some (.iface 70 (.pointer (some ⟨eb, 0, none⟩)))
  ex : wr.cell? ⟨eb, 0, none⟩ = some X
  hE : wr.cell? ⟨1, 0, none⟩ = some E
  kp : Kp (fun k => k ≠ mb ∧ k ≠ rr) w wr

set_option maxRecDepth 100000 in
set_option maxHeartbeats 4000000 in
theorem multi_last (mb rr rb eb g o dl dc : Nat) (tE : TypeId) (aE xA : Addr) (w : World) (c0 : w.cell? ⟨mb, 0, none⟩ = some (.slice (some ⟨rr, 0, none⟩) 2 2)) (f0 : w.frozen? ⟨mb, 0, none⟩ = false) (r0 : w.cell? ⟨rr, 0, none⟩ = some (.iface 46 (.pointer (some ⟨rb, 0, none⟩)))) (r1 : w.cell? ⟨rr, 1, none⟩ = some (.iface 70 (.pointer (some ⟨eb, 0, none⟩)))) (g0 : w.frozen? ⟨rr, 0, none⟩ = false)
    (ex : w.cell? ⟨eb, 0, none⟩ = some (.iface 73 (.pointer (some xA)))) (hE : w.cell? ⟨1, 0, none⟩ = some (.iface tE (.pointer (some aE)))) (d1 : mb ≠ rr) (d2 : eb ≠ rr) (d3 : eb ≠ mb) (d4 : rr ≠ 1) (d5 : mb ≠ 1)
    (hq1 : ∀ W, (binOp .eql 34 (.iface tE (.pointer (some aE))) (.iface tE (.pointer (some aE)))).run Tryd.prog W = .ok (.bool true) W)
    (hq3 : ∀ W, (binOp .neq 34 (.iface tE (.pointer (some aE))) (.iface tE (.pointer (some aE)))).run Tryd.prog W = .ok (.bool false) W)
    (hqx : ∀ W, Kp (fun k => k ≠ mb ∧ k ≠ rr) w W → (binOp .eql 34 (.iface 73 (.pointer (some xA))) (.iface tE (.pointer (some aE)))).run Tryd.prog W = .ok (.bool false) W ∧ (binOp .neq 34 (.iface 73 (.pointer (some xA))) (.iface tE (.pointer (some aE)))).run Tryd.prog W = .ok (.bool true) W)
    (C : Calls Tryd.prog 47 #[.pointer (some ⟨rb, 0, none⟩), .slice (some ⟨g, o, none⟩) dl dc] w fun e w' => e = .returned (.tuple #[.int .i64 0, .iface tE (.pointer (some aE))]) ∧ ∃ k, w' = w.drewN k) :
    Calls Tryd.prog 51 #[.pointer (some ⟨mb, 0, none⟩), .slice (some ⟨g, o, none⟩) dl dc] w fun e w' => e = .returned (.tuple #[.int .i64 0, .iface 73 (.pointer (some xA))]) ∧ Kp (fun k => k ≠ mb ∧ k ≠ rr) w w' := by
  have HC : Hid (Calls Tryd.prog 47 #[.pointer (some ⟨rb, 0, none⟩), .slice (some ⟨g, o, none⟩) dl dc] w fun e w' => e = .returned (.tuple #[.int .i64 0, .iface tE (.pointer (some aE))]) ∧ ∃ k, w' = w.drewN k) := C
  have HX : Hid (∀ W, Kp (fun k => k ≠ mb ∧ k ≠ rr) w W → (binOp .eql 34 (.iface 73 (.pointer (some xA))) (.iface tE (.pointer (some aE)))).run Tryd.prog W = .ok (.bool false) W ∧ (binOp .neq 34 (.iface 73 (.pointer (some xA))) (.iface tE (.pointer (some aE)))).run Tryd.prog W = .ok (.bool true) W) := hqx
  have nm := fun w => method46' ⟨rb, 0, none⟩ w
  have nm2 := fun w => method70 ⟨eb, 0, none⟩ w
  have ta := fun w => assert70 ⟨eb, 0, none⟩ w
  have d1' : ¬ rr = mb := fun e => d1 e.symm
  have d4' : ¬ 1 = rr := fun e => d4 e.symm
  have d5' : ¬ 1 = mb := fun e => d5 e.symm
  have d2' : ¬ rr = eb := fun e => d2 e.symm
  have d3' : ¬ mb = eb := fun e => d3 e.symm
  have HPB : Hid (∀ q v, PB mb rr eb (.iface 73 (.pointer (some xA))) (.iface tE (.pointer (some aE))) w (((w.drewN q).setCell ⟨rr, 0, none⟩ v).setCell ⟨mb, 0, none⟩ (.slice (some ⟨rr, 1, none⟩) 1 1))) := by
    intro q v
    have key : ∀ (a : Addr), a ≠ ⟨mb, 0, none⟩ → a ≠ ⟨rr, 0, none⟩ → (((w.drewN q).setCell ⟨rr, 0, none⟩ v).setCell ⟨mb, 0, none⟩ (.slice (some ⟨rr, 1, none⟩) 1 1)).cell? a = w.cell? a := by
      intro a h1 h2
      rw [World.cell?_setCell_other _ _ _ _ (Ne.symm h1), World.cell?_setCell_other _ _ _ _ (Ne.symm h2)]
      rfl
    refine ⟨?_, (key _ (by simp [d1']) (by simp)).trans r1, (key _ (by simp [d3]) (by simp [d2])).trans ex, (key _ (by simp [d5']) (by simp [d4'])).trans hE, ?_⟩
    · have : ((w.drewN q).setCell ⟨rr, 0, none⟩ v).cell? ⟨mb, 0, none⟩ = some (.slice (some ⟨rr, 0, none⟩) 2 2) := by
        rw [World.cell?_setCell_other _ _ _ _ (by simp [d1'])]; exact c0
      exact World.cell?_setCell_same _ _ _ this
    · exact (((Kp.refl _ w).drewN q).setCell (fun h => h.2 rfl) _ _).setCell (fun h => h.1 rfl) _ _
  clear C hqx
  go_enter Tryd.func51, Tryd.ntmps51
  go_wp2_with fail
  go_loopw [4] (fun _ wr => wr = w ∨ PB mb rr eb (.iface 73 (.pointer (some xA))) (.iface tE (.pointer (some aE))) w wr) (fun _ wr => slen (wr.cell? ⟨mb, 0, none⟩))
  case atStart => exact .inl rfl
  case round =>
    rcases hrel with rfl | hp
    · go_wp2_with fail
      refine Calls.mono HC.out ?_
      rintro e W1 ⟨rfl, q, rfl⟩
      go_wp2_with fail
      go_roundw
      case rel => exact .inr (HPB.out _ _)
      case measure => rw [(HPB.out _ _).c0, c0]; simp [slen]
    · have p0 := hp.c0
      have p1 := hp.r1
      have p2 := hp.ex
      have p3 := hp.hE
      have HP : Hid (Kp (fun k => k ≠ mb ∧ k ≠ rr) w wr) := hp.kp
      have C2 : Hid (Calls Tryd.prog 52 #[.pointer (some ⟨eb, 0, none⟩), .slice (some ⟨g, o, none⟩) dl dc] wr fun e w' => e = .returned (.tuple #[.int .i64 0, .iface 73 (.pointer (some xA))]) ∧ ∃ k, w' = wr.drewN k) := errRead52 eb _ _ wr p2
      clear hp c0 f0 r0 r1 g0 ex hE HPB
      go_wp2_with fail
      refine Calls.mono C2.out ?_
      rintro e W2 ⟨rfl, q, rfl⟩
      have y1 := (HX.out _ (HP.out.drewN q)).1
      have y2 := (HX.out _ (HP.out.drewN q)).2
      have HP2 : Hid (Kp (fun k => k ≠ mb ∧ k ≠ rr) w (wr.drewN q)) := HP.out.drewN q
      go_wp2_with fail
      go_ret2
      exact ⟨rfl, HP2.out⟩

end Go.Proofs.Qxb6613323aDoor.Do
